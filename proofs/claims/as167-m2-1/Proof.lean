import JvmDerived
import JvmDerived.Pilot.@@N@@Statement
import JvmDerived.Pilot.@@N@@Code
set_option linter.unusedVariables false
set_option linter.unusedSimpArgs false
namespace Jvm.RoadKit
open Sem ClassFile Op Lib Jvm.Stand Jvm.Free Jvm.LawKit
section New
variable {p : Program} {l : Launch} {e : Env} {R : Room} {s : State} {m : MethodId} {args : Array Value} {below : List Frame} {meth : Method} {c : Code} {T : State} {locs : List Loc} {cells slots : Nat}
theorem retI (X : Stand p l e R s m args below meth c T locs cells slots) (hx : p.tables.exec = Jvm.exec) {pc : Nat} {Ls : Array Slot} {z : Int32} {rest : List Value} (hret : meth.sig.returnType = some .int) (hd : decode c.code pc = .ok (.ireturn, 1)) {fs : List Frame}
    (hl : ∀ (f : JFrame) (acts : List Action), f.method = m → f.locked = none → f.entered = [] → (doReturn e (T.setTop f) acts (some (.int z))).1 = T.setFrames fs) : Steps p.tables e below (T.setTop (mkF m pc Ls (.int z :: rest))) (T.setFrames fs) := by
  have hm' : T.vm.method? m = some meth := X.method'
  have hn : narrow .int (.int z) = .int z := rfl
  show Steps p.tables e below (T.setTop { method := m, pc := pc, locals := Ls, stack := _ :: rest, locked := none }) _
  jvm_step X.here [X.here.top, hx, hd, hm', hret, hn]
  first | (intro acts; rw [hl _ acts rfl rfl rfl]) | rw [hl _ _ rfl rfl rfl]
  exact Steps.refl _
end New
end Jvm.RoadKit
/- laws to paste: Road.backV, Road.lenW, Road.chN, Road.codOf (cut by pick.py; bodies as the Statement names them) -/
namespace Jvm.Pilot.@@N@@
namespace StrChars
open Jvm Sem ClassFile Op Lib Jvm.Stand Jvm.Free.XT Jvm.Free.ALB Jvm.Free.JM Jvm.Free
open Jvm.Lib.Cold (StaticIs)
/-- a char array whose places are chars -/
def Ch (a : Addr) (A : Cell) (U : State) : Prop := Arr .char a A U ∧ Typed .char A
theorem Ch.mv {a : Addr} {A : Cell} {U U' : State} (h : Ch a A U) (hal : U.vm.Alike U'.vm) (hh : U'.heap = U.heap) : Ch a A U' := ⟨h.1.mv hal hh, h.2⟩
theorem Ch.keep {a : Addr} {A : Cell} {U U' : State} (h : Ch a A U) (hal : U.vm.Alike U'.vm) (hk : U'.heap[a]? = some A) : Ch a A U' := ⟨h.1.keep hal hk, h.2⟩
/-- what place i of a char[]'s cell holds -/
def cv (A : Cell) (i : Nat) : Int32 := match A.slots[i]? with | some (.int x) => x | _ => 0
theorem Ch.get {a : Addr} {A : Cell} {U : State} (h : Ch a A U) {i : Nat} (hi : i < A.slots.size) : A.slots[i]? = some (.int (cv A i)) := by
  have e := Array.getElem?_eq_getElem hi
  have f := h.2 i _ e
  unfold cv; rw [e]
  generalize A.slots[i] = v at f
  cases v <;> simp [fits] at f ⊢
/-- the byte that i2b leaves of a char -/
def lo8 (x : Int32) : Int32 := x.toInt8.toInt32
theorem fits_lo8 (y : Int32) : fits .byte (.int (lo8 y)) = true := by
  have h1 := y.toInt8.le_toInt
  have h2 := y.toInt8.toInt_lt
  simp only [lo8, fits, Bool.and_eq_true, decide_eq_true_eq, Int32.le_iff_toInt_le, Int8.toInt_toInt32, show (-128 : Int32).toInt = -128 from by decide, show (127 : Int32).toInt = 127 from by decide]
  omega
/-- A' is A but that each place j of lo .. hi - 1 holds f j -/
def Laid (A A' : Cell) (lo hi : Nat) (f : Nat → Value) : Prop := A'.cls = A.cls ∧ A'.vm = A.vm ∧ A'.slots.size = A.slots.size ∧ ∀ i, A'.slots[i]? = if lo ≤ i ∧ i < hi then some (f i) else A.slots[i]?
theorem Laid.zero (A : Cell) (lo : Nat) (f : Nat → Value) : Laid A A lo (lo + 0) f := ⟨rfl, rfl, rfl, fun i => by rw [if_neg (by omega)]⟩
theorem Laid.step {A Ak : Cell} {lo k : Nat} {f : Nat → Value} {v : Value} (h : Laid A Ak lo k f) (hlo : lo ≤ k) (hk : k < Ak.slots.size) (hv : v = f k) : Laid A (Ak.setSlot k v) lo (k + 1) f := by
  refine ⟨h.1, h.2.1, by simpa [Cell.setSlot] using h.2.2.1, fun i => ?_⟩
  by_cases e : k = i
  · subst e; rw [Cell.slots_setSlot_self v hk, if_pos (by omega), hv]
  · rw [Cell.slots_setSlot_ne v e, h.2.2.2 i]
    by_cases q : lo ≤ i ∧ i < k
    · rw [if_pos q, if_pos (by omega)]
    · rw [if_neg q, if_neg (by omega)]
def U16 : String := "java/lang/StringUTF16"
namespace Cmp5
def yN : MethodName := ⟨"java/lang/StringUTF16", "compress", "([CI[BII)I"⟩
abbrev yB : ByteArray := jdk_52_method_21_code
theorem d0 : decode yB 0 = .ok (.iconst 0, 1) := by decide +kernel
theorem d1 : decode yB 1 = .ok (.istore 5, 2) := by decide +kernel
theorem d3 : decode yB 3 = .ok (.iload 5, 2) := by decide +kernel
theorem d5 : decode yB 5 = .ok (.iload 4, 2) := by decide +kernel
theorem d7 : decode yB 7 = .ok (.if_icmp (.ge) 37, 3) := by decide +kernel
theorem d10 : decode yB 10 = .ok (.aload_n 0, 1) := by decide +kernel
theorem d11 : decode yB 11 = .ok (.iload_n 1, 1) := by decide +kernel
theorem d12 : decode yB 12 = .ok (.caload, 1) := by decide +kernel
theorem d13 : decode yB 13 = .ok (.istore 6, 2) := by decide +kernel
theorem d15 : decode yB 15 = .ok (.iload 6, 2) := by decide +kernel
theorem d17 : decode yB 17 = .ok (.sipush 255, 3) := by decide +kernel
theorem d20 : decode yB 20 = .ok (.if_icmp (.le) 6, 3) := by decide +kernel
theorem d26 : decode yB 26 = .ok (.aload_n 2, 1) := by decide +kernel
theorem d27 : decode yB 27 = .ok (.iload_n 3, 1) := by decide +kernel
theorem d28 : decode yB 28 = .ok (.iload 6, 2) := by decide +kernel
theorem d30 : decode yB 30 = .ok (.i2b, 1) := by decide +kernel
theorem d31 : decode yB 31 = .ok (.bastore, 1) := by decide +kernel
theorem d32 : decode yB 32 = .ok (.iinc 1 1, 3) := by decide +kernel
theorem d35 : decode yB 35 = .ok (.iinc 3 1, 3) := by decide +kernel
theorem d38 : decode yB 38 = .ok (.iinc 5 1, 3) := by decide +kernel
theorem d41 : decode yB 41 = .ok (.goto (-38), 3) := by decide +kernel
theorem d44 : decode yB 44 = .ok (.iload 4, 2) := by decide +kernel
theorem d46 : decode yB 46 = .ok (.ireturn, 1) := by decide +kernel
def site : List Cond := []
def tab : Cond := tabOf yN yB 7 (some .int) site
def P (b : Addr) (A : Cell) (d : Addr) (B : Cell) (o q len : Nat) (args : Array Value) (s : State) : Prop := args = #[.ref b, .int (Int32.ofNat o), .ref d, .int (Int32.ofNat q), .int (Int32.ofNat len)] ∧ Ch b A s ∧ Arr .byte d B s ∧ b ≠ d ∧ o + len ≤ A.slots.size ∧ q + len ≤ B.slots.size ∧ ∀ i, i < len → ¬ 255 < cv A (o + i)
def E (b : Addr) (A : Cell) (d : Addr) (B : Cell) (o q len : Nat) (r : Option Value) (s u : State) : Prop := r = some (.int (Int32.ofNat len)) ∧ ∃ B', Put d B' s u ∧ Laid B B' q (q + len) (fun j => Value.int (lo8 (cv A (o + (j - q)))))
/-- no char of the range above 255: len; the places written hold each char's low byte -/
theorem law (l : Launch) (b : Addr) (A : Cell) (d : Addr) (B : Cell) (o q len : Nat) : Law l yN 5 5 0 0 yB 7 (some .int) site (P b A d B o q len) (E b A d B o q len) (copyLocs d q len) 0 0 := by
  refine Law.of_walk (plainFor_of_name (by decide +kernel)) (by decide +kernel) (by decide +kernel) (by decide) (fun _ _ h => by rw [h.1]; rfl) (fun _ U U' hal hh h => ⟨h.1, h.2.1.mv hal hh, h.2.2.1.mv hal hh, h.2.2.2⟩) (fun r U U' V V' h1 hal h2 h => ⟨h.1, h.2.elim fun B' q => ⟨B', q.1.mv h1 h2, q.2⟩⟩) ?_
  intro p e s m args below meth c s₁ X0 hexec hbytes hml hret hlk hnm hown hh0 W hP
  obtain ⟨rfl, hA, hB, hne, l1, l2, hp⟩ := hP
  have c1 : Steps p.tables e below (s₁.setTop (entryFrame m #[.ref b, .int (Int32.ofNat o), .ref d, .int (Int32.ofNat q), .int (Int32.ofNat len)] 7)) (s₁.setTop (mkF m 0 #[.val (.ref b), .val (.int (Int32.ofNat o)), .val (.ref d), .val (.int (Int32.ofNat q)), .val (.int (Int32.ofNat len)), .unset, .unset] [])) := entry rfl
  have hA0 := hA.1.mv X0.warmed.alike hh0
  have hB0 := hB.mv X0.warmed.alike hh0
  have a31 := hA.1.2.2.2
  have c2 : Steps p.tables e below (s₁.setTop (entryFrame m #[.ref b, .int (Int32.ofNat o), .ref d, .int (Int32.ofNat q), .int (Int32.ofNat len)] 7)) (s₁.setTop (mkF m 3 #[.val (.ref b), .val (.int (Int32.ofNat o)), .val (.ref d), .val (.int (Int32.ofNat q)), .val (.int (Int32.ofNat len)), .val (.int 0), .unset] [])) := c1.trans (by
    refine iconstV X0.here hexec rfl 0 (hb hbytes d0) (by decide) ?_
    refine XS.istore X0.here hexec rfl (hb hbytes d1) rfl rfl ?_
    exact Steps.refl _)
  have loop : ∀ (r i : Nat), i + r = len → ∀ (z : Slot), (z = .unset ∨ ∃ w, z = .val w ∧ w.category = 1) → ∀ (Tl : State) (Bk : Cell), Stand p l e { frames := 0, locals := 0, cells := 0, slots := 0 } s m #[.ref b, .int (Int32.ofNat o), .ref d, .int (Int32.ofNat q), .int (Int32.ofNat len)] below meth c Tl ([] ++ copyLocs d q i) 0 0 → Put d Bk s₁ Tl → Laid B Bk q (q + i) (fun j => Value.int (lo8 (cv A (o + (j - q))))) →
      Steps p.tables e below (s₁.setTop (entryFrame m #[.ref b, .int (Int32.ofNat o), .ref d, .int (Int32.ofNat q), .int (Int32.ofNat len)] 7)) (Tl.setTop (mkF m 3 #[.val (.ref b), .val (.int (Int32.ofNat (o + i))), .val (.ref d), .val (.int (Int32.ofNat (q + i))), .val (.int (Int32.ofNat len)), .val (.int (Int32.ofNat i)), z] [])) → ∃ (T' : State) (B' : Cell) (z' : Slot), Stand p l e { frames := 0, locals := 0, cells := 0, slots := 0 } s m #[.ref b, .int (Int32.ofNat o), .ref d, .int (Int32.ofNat q), .int (Int32.ofNat len)] below meth c T' ([] ++ copyLocs d q len) 0 0 ∧ Put d B' s₁ T' ∧ Laid B B' q (q + len) (fun j => Value.int (lo8 (cv A (o + (j - q))))) ∧
      Steps p.tables e below (s₁.setTop (entryFrame m #[.ref b, .int (Int32.ofNat o), .ref d, .int (Int32.ofNat q), .int (Int32.ofNat len)] 7)) (T'.setTop (mkF m 3 #[.val (.ref b), .val (.int (Int32.ofNat (o + len))), .val (.ref d), .val (.int (Int32.ofNat (q + len))), .val (.int (Int32.ofNat len)), .val (.int (Int32.ofNat len)), z'] [])) := by
    intro r
    induction r with
    | zero =>
      intro i hi z hz Tl Bk Xl pl fl cl
      have hil : i = len := by omega
      rw [hil] at Xl fl cl
      exact ⟨Tl, Bk, z, Xl, pl, fl, cl⟩
    | succ r ih =>
      intro i hi z hz Tl Bk Xl pl fl cl
      have all := X0.warmed.alike.symm.trans Xl.warmed.alike
      have hAl := hA0.keep all (pl.other hne hA0.1)
      have hBk := hB0.like all pl.1 fl.1 fl.2.1 fl.2.2.1
      have hlt : q + i < Bk.slots.size := by rw [fl.2.2.1]; omega
      have c3 : Steps p.tables e below (s₁.setTop (entryFrame m #[.ref b, .int (Int32.ofNat o), .ref d, .int (Int32.ofNat q), .int (Int32.ofNat len)] 7)) (Tl.setTop (mkF m 12 #[.val (.ref b), .val (.int (Int32.ofNat (o + i))), .val (.ref d), .val (.int (Int32.ofNat (q + i))), .val (.int (Int32.ofNat len)), .val (.int (Int32.ofNat i)), z] [.int (Int32.ofNat (o + i)), .ref b])) := cl.trans (by
        refine XS.iload Xl.here hexec rfl (hb hbytes d3) rfl ?_
        refine XS.iload Xl.here hexec rfl (hb hbytes d5) rfl ?_
        refine XS.icmpNo Xl.here hexec rfl (hb hbytes d7) rfl (ii_ge_f (lt32 (by omega) (by omega))) ?_
        refine XS.aloadN Xl.here hexec rfl (hb hbytes d10) rfl rfl ?_
        refine XS.iloadN Xl.here hexec rfl (hb hbytes d11) rfl ?_
        exact Steps.refl _)
      have c4 : Steps p.tables e below (s₁.setTop (entryFrame m #[.ref b, .int (Int32.ofNat o), .ref d, .int (Int32.ofNat q), .int (Int32.ofNat len)] 7)) (Tl.setTop (mkF m 13 #[.val (.ref b), .val (.int (Int32.ofNat (o + i))), .val (.ref d), .val (.int (Int32.ofNat (q + i))), .val (.int (Int32.ofNat len)), .val (.int (Int32.ofNat i)), z] [.int (cv A (o + i))])) := c3.trans (by
        refine Xl.aget hexec hAl rfl (hA.get (i := o + i) (by omega)) rfl rfl (hb hbytes d12) ?_
        exact Steps.refl _)
      have c5 : Steps p.tables e below (s₁.setTop (entryFrame m #[.ref b, .int (Int32.ofNat o), .ref d, .int (Int32.ofNat q), .int (Int32.ofNat len)] 7)) (Tl.setTop (mkF m 15 #[.val (.ref b), .val (.int (Int32.ofNat (o + i))), .val (.ref d), .val (.int (Int32.ofNat (q + i))), .val (.int (Int32.ofNat len)), .val (.int (Int32.ofNat i)), .val (.int (cv A (o + i)))] [])) := c4.trans (by
        refine XS.istoreS Xl.here hexec rfl (hb hbytes d13) rfl rfl hz ?_
        exact Steps.refl _)
      have c6 : Steps p.tables e below (s₁.setTop (entryFrame m #[.ref b, .int (Int32.ofNat o), .ref d, .int (Int32.ofNat q), .int (Int32.ofNat len)] 7)) (Tl.setTop (mkF m 31 #[.val (.ref b), .val (.int (Int32.ofNat (o + i))), .val (.ref d), .val (.int (Int32.ofNat (q + i))), .val (.int (Int32.ofNat len)), .val (.int (Int32.ofNat i)), .val (.int (cv A (o + i)))] [.int (lo8 (cv A (o + i))), .int (Int32.ofNat (q + i)), .ref d])) := c5.trans (by
        refine XS.iload Xl.here hexec rfl (hb hbytes d15) rfl ?_
        refine sipushV Xl.here hexec rfl 255 (hb hbytes d17) (by decide) ?_
        refine XS.icmpYes Xl.here hexec rfl (pc0 := 20) rfl (hb hbytes d20) rfl (ii_le_t (hp i (by omega))) (by decide) rfl ?_
        refine XS.aloadN Xl.here hexec rfl (hb hbytes d26) rfl rfl ?_
        refine XS.iloadN Xl.here hexec rfl (hb hbytes d27) rfl ?_
        refine XS.iload Xl.here hexec rfl (hb hbytes d28) rfl ?_
        refine i2b Xl.here hexec rfl (hb hbytes d30) rfl ?_
        exact Steps.refl _)
      obtain ⟨T7, X7, p7, st7⟩ := Xl.aput hexec hBk rfl hlt rfl (fits_lo8 (cv A (o + i))) (g := (mkF m 31 #[.val (.ref b), .val (.int (Int32.ofNat (o + i))), .val (.ref d), .val (.int (Int32.ofNat (q + i))), .val (.int (Int32.ofNat len)), .val (.int (Int32.ofNat i)), .val (.int (cv A (o + i)))] [.int (lo8 (cv A (o + i))), .int (Int32.ofNat (q + i)), .ref d])) rfl (rest := []) rfl (hb hbytes d31)
      have c8 : Steps p.tables e below (s₁.setTop (entryFrame m #[.ref b, .int (Int32.ofNat o), .ref d, .int (Int32.ofNat q), .int (Int32.ofNat len)] 7)) (T7.setTop (mkF m 32 #[.val (.ref b), .val (.int (Int32.ofNat (o + i))), .val (.ref d), .val (.int (Int32.ofNat (q + i))), .val (.int (Int32.ofNat len)), .val (.int (Int32.ofNat i)), .val (.int (cv A (o + i)))] [])) := c6.trans (st7 _ (Steps.refl _))
      have c9 : Steps p.tables e below (s₁.setTop (entryFrame m #[.ref b, .int (Int32.ofNat o), .ref d, .int (Int32.ofNat q), .int (Int32.ofNat len)] 7)) (T7.setTop (mkF m 3 #[.val (.ref b), .val (.int (Int32.ofNat (o + i) + 1)), .val (.ref d), .val (.int (Int32.ofNat (q + i) + 1)), .val (.int (Int32.ofNat len)), .val (.int (Int32.ofNat i + 1)), .val (.int (cv A (o + i)))] [])) := c8.trans (by
        refine iincV X7.here hexec rfl 1 (hb hbytes d32) (by decide) rfl rfl ?_
        refine iincV X7.here hexec rfl 1 (hb hbytes d35) (by decide) rfl rfl ?_
        refine iincV X7.here hexec rfl 1 (hb hbytes d38) (by decide) rfl rfl ?_
        refine XS.goto X7.here hexec rfl (pc0 := 41) rfl (hb hbytes d41) (by decide) rfl ?_
        exact Steps.refl _)
      have c10 : Steps p.tables e below (s₁.setTop (entryFrame m #[.ref b, .int (Int32.ofNat o), .ref d, .int (Int32.ofNat q), .int (Int32.ofNat len)] 7)) (T7.setTop (mkF m 3 #[.val (.ref b), .val (.int (Int32.ofNat (o + (i + 1)))), .val (.ref d), .val (.int (Int32.ofNat (q + (i + 1)))), .val (.int (Int32.ofNat len)), .val (.int (Int32.ofNat (i + 1))), .val (.int (cv A (o + i)))] [])) := by
        have := c9
        rw [succ32, succ32, succ32] at this
        exact this
      exact ih (i + 1) (by omega) _ (Or.inr ⟨_, rfl, rfl⟩) T7 _ (by rw [copyLocs_step, ← List.append_assoc]; exact X7) (pl.trans p7) (fl.step (by omega) hlt (by simp)) c10
  obtain ⟨T9, B9, z9, X9, p9, f9, g9⟩ := loop len 0 (by omega) .unset (Or.inl rfl) s₁ B (by simpa [copyLocs] using X0) ⟨hB0.1, fun _ _ => rfl, rfl⟩ (Laid.zero _ _ _) c2
  have c11 : Steps p.tables e below (s₁.setTop (entryFrame m #[.ref b, .int (Int32.ofNat o), .ref d, .int (Int32.ofNat q), .int (Int32.ofNat len)] 7)) (T9.setTop (mkF m 46 #[.val (.ref b), .val (.int (Int32.ofNat (o + len))), .val (.ref d), .val (.int (Int32.ofNat (q + len))), .val (.int (Int32.ofNat len)), .val (.int (Int32.ofNat len)), z9] [.int (Int32.ofNat len)])) := g9.trans (by
    refine XS.iload X9.here hexec rfl (hb hbytes d3) rfl ?_
    refine XS.iload X9.here hexec rfl (hb hbytes d5) rfl ?_
    refine XS.icmpYes X9.here hexec rfl (pc0 := 7) rfl (hb hbytes d7) rfl (ii_ge_t (nlt32 (by omega) (Nat.le_refl _))) (by decide) rfl ?_
    refine XS.iload X9.here hexec rfl (hb hbytes d44) rfl ?_
    exact Steps.refl _)
  exact ⟨T9, some (.int (Int32.ofNat len)), _, _, _, X9, by simp, rfl, rfl, (fun h => by cases h), ⟨rfl, B9, p9.from hh0, f9⟩, fun fs hl => c11.trans (X9.ireturnOut hexec hret rfl (Or.inl rfl) (hb hbytes d46) hl)⟩
end Cmp5
namespace Cmp3
def yN : MethodName := ⟨"java/lang/StringUTF16", "compress", "([CII)[B"⟩
abbrev yB : ByteArray := jdk_52_method_16_code
theorem d0 : decode yB 0 = .ok (.iload_n 2, 1) := by decide +kernel
theorem d1 : decode yB 1 = .ok (.newarray .byte, 2) := by decide +kernel
theorem d3 : decode yB 3 = .ok (.astore_n 3, 1) := by decide +kernel
theorem d4 : decode yB 4 = .ok (.aload_n 0, 1) := by decide +kernel
theorem d5 : decode yB 5 = .ok (.iload_n 1, 1) := by decide +kernel
theorem d6 : decode yB 6 = .ok (.aload_n 3, 1) := by decide +kernel
theorem d7 : decode yB 7 = .ok (.iconst 0, 1) := by decide +kernel
theorem d8 : decode yB 8 = .ok (.iload_n 2, 1) := by decide +kernel
theorem d9 : decode yB 9 = .ok (.invokestatic 115, 3) := by decide +kernel
theorem d12 : decode yB 12 = .ok (.istore 4, 2) := by decide +kernel
theorem d14 : decode yB 14 = .ok (.iload 4, 2) := by decide +kernel
theorem d16 : decode yB 16 = .ok (.iload_n 2, 1) := by decide +kernel
theorem d17 : decode yB 17 = .ok (.if_icmp (.eq) 40, 3) := by decide +kernel
theorem d57 : decode yB 57 = .ok (.aload_n 3, 1) := by decide +kernel
theorem d58 : decode yB 58 = .ok (.areturn, 1) := by decide +kernel
def site : List Cond := [.arrayClass .byte, Cmp5.tab] ++ staticW U16 115 Cmp5.yN
def tab : Cond := tabOf yN yB 6 (some (.array .byte)) site
def P (b : Addr) (A : Cell) (o len : Nat) (args : Array Value) (s : State) : Prop := args = #[.ref b, .int (Int32.ofNat o), .int (Int32.ofNat len)] ∧ Ch b A s ∧ o + len ≤ A.slots.size ∧ len ≤ 536870912 ∧ ∀ i, i < len → ¬ 255 < cv A (o + i)
def E (b : Addr) (A : Cell) (o len : Nat) (r : Option Value) (s u : State) : Prop := NewArr .byte "[B" len (fun j => .int (lo8 (cv A (o + j)))) r s u ∧ u.heap.size = s.heap.size + 1
/-- no char of the range above 255: a new byte[] of their low bytes -/
theorem law (l : Launch) (b : Addr) (A : Cell) (o len : Nat) : Law l yN 3 3 1 18 yB 6 (some (.array .byte)) site (P b A o len) (E b A o len) [] 1 len := by
  refine Law.of_walk (plainFor_of_name (by decide +kernel)) (by decide +kernel) (by decide +kernel) (by decide) (fun _ _ h => by rw [h.1]; rfl) (fun _ U U' hal hh h => ⟨h.1, h.2.1.mv hal hh, h.2.2⟩) (fun r U U' V V' h1 hal h2 h => ⟨NewArr.mv r U U' V V' h1 hal h2 h.1, by rw [h1, h2]; exact h.2⟩) ?_
  intro p e s m args below meth c s₁ X0 hexec hbytes hml hret hlk hnm hown hh0 W hP
  obtain ⟨rfl, hA, l1, l2, hp⟩ := hP
  have a31 := hA.1.2.2.2
  have c1 : Steps p.tables e below (s₁.setTop (entryFrame m #[.ref b, .int (Int32.ofNat o), .int (Int32.ofNat len)] 6)) (s₁.setTop (mkF m 0 #[.val (.ref b), .val (.int (Int32.ofNat o)), .val (.int (Int32.ofNat len)), .unset, .unset, .unset] [])) := entry rfl
  have c2 : Steps p.tables e below (s₁.setTop (entryFrame m #[.ref b, .int (Int32.ofNat o), .int (Int32.ofNat len)] 6)) (s₁.setTop (mkF m 1 #[.val (.ref b), .val (.int (Int32.ofNat o)), .val (.int (Int32.ofNat len)), .unset, .unset, .unset] [.int (Int32.ofNat len)])) := c1.trans (by
    refine XS.iloadN X0.here hexec rfl (hb hbytes d0) rfl ?_
    exact Steps.refl _)
  obtain ⟨T3, B3, X3, ba3, bs3, bv3, bh3, bf3, st3⟩ := X0.anew hexec (atype := .byte) (wk W (.arrayClass .byte)) rfl (by show len * 1 ≤ _; omega) (by omega) (g := (mkF m 1 #[.val (.ref b), .val (.int (Int32.ofNat o)), .val (.int (Int32.ofNat len)), .unset, .unset, .unset] [.int (Int32.ofNat len)])) rfl (hb hbytes d1) (rest := []) rfl (Nat.le_refl _) (by show 0 + len ≤ len; omega)
  rw [hh0] at ba3 st3
  have kp3 : XT.Kept s T3 := (XT.Kept.of_eq hh0).push bh3
  have hA3 := hA.keep X3.warmed.alike (kp3 _ _ hA.1.1)
  have hne : b ≠ s.heap.size := hA.1.ne
  have c4 : Steps p.tables e below (s₁.setTop (entryFrame m #[.ref b, .int (Int32.ofNat o), .int (Int32.ofNat len)] 6)) (T3.setTop (mkF m 3 #[.val (.ref b), .val (.int (Int32.ofNat o)), .val (.int (Int32.ofNat len)), .unset, .unset, .unset] [.ref s.heap.size])) := c2.trans (st3 _ (Steps.refl _))
  have c5 : Steps p.tables e below (s₁.setTop (entryFrame m #[.ref b, .int (Int32.ofNat o), .int (Int32.ofNat len)] 6)) (T3.setTop (mkF m 9 #[.val (.ref b), .val (.int (Int32.ofNat o)), .val (.int (Int32.ofNat len)), .val (.ref s.heap.size), .unset, .unset] [.int (Int32.ofNat len), .int 0, .ref s.heap.size, .int (Int32.ofNat o), .ref b])) := c4.trans (by
    refine XS.astoreN X3.here hexec rfl (hb hbytes d3) rfl rfl rfl ?_
    refine XS.aloadN X3.here hexec rfl (hb hbytes d4) rfl rfl ?_
    refine XS.iloadN X3.here hexec rfl (hb hbytes d5) rfl ?_
    refine XS.aloadN X3.here hexec rfl (hb hbytes d6) rfl rfl ?_
    refine iconstV X3.here hexec rfl 0 (hb hbytes d7) (by decide) ?_
    refine XS.iloadN X3.here hexec rfl (hb hbytes d8) rfl ?_
    exact Steps.refl _)
  obtain ⟨v6, T6, X6, E6, g6⟩ := X3.callS hexec (Cmp5.law l b A s.heap.size B3 o 0 len) hown (wks W (staticW U16 115 Cmp5.yN)) (wk W Cmp5.tab) (W := 0) (Nat.le_of_ble_eq_true rfl) (Nat.le_of_ble_eq_true rfl) (Nat.le_refl _) (by show 0 + len + 0 ≤ len; omega) (g := (mkF m 9 #[.val (.ref b), .val (.int (Int32.ofNat o)), .val (.int (Int32.ofNat len)), .val (.ref s.heap.size), .unset, .unset] [.int (Int32.ofNat len), .int (Int32.ofNat 0), .ref s.heap.size, .int (Int32.ofNat o), .ref b])) rfl (by rw [hml]; rfl) c5 (argsL := [.ref b, .int (Int32.ofNat o), .ref s.heap.size, .int (Int32.ofNat 0), .int (Int32.ofNat len)]) (rest := []) rfl rfl (by show 2 * 0 + 0 ≤ _; decide) (hb hbytes d9) (⟨rfl, hA3, ba3, hne, l1, by rw [bs3]; simp, hp⟩)
  obtain ⟨rfl, B6, p6, f6⟩ := E6
  have c7 : Steps p.tables e below (s₁.setTop (entryFrame m #[.ref b, .int (Int32.ofNat o), .int (Int32.ofNat len)] 6)) (T6.setTop (mkF m 12 #[.val (.ref b), .val (.int (Int32.ofNat o)), .val (.int (Int32.ofNat len)), .val (.ref s.heap.size), .unset, .unset] [.int (Int32.ofNat len)])) := g6
  have c8 : Steps p.tables e below (s₁.setTop (entryFrame m #[.ref b, .int (Int32.ofNat o), .int (Int32.ofNat len)] 6)) (T6.setTop (mkF m 58 #[.val (.ref b), .val (.int (Int32.ofNat o)), .val (.int (Int32.ofNat len)), .val (.ref s.heap.size), .val (.int (Int32.ofNat len)), .unset] [.ref s.heap.size])) := c7.trans (by
    refine XS.istore X6.here hexec rfl (hb hbytes d12) rfl rfl ?_
    refine XS.iload X6.here hexec rfl (hb hbytes d14) rfl ?_
    refine XS.iloadN X6.here hexec rfl (hb hbytes d16) rfl ?_
    refine XS.icmpYes X6.here hexec rfl (pc0 := 17) rfl (hb hbytes d17) rfl (ii_eq_t rfl) (by decide) rfl ?_
    refine XS.aloadN X6.here hexec rfl (hb hbytes d57) rfl rfl ?_
    exact Steps.refl _)
  have X8 := X6.wide (L' := []) (cells' := 1) (slots' := len) (fun x hx hlt => by
    simp only [List.nil_append, copyLocs, List.mem_map, List.mem_range] at hx
    obtain ⟨i, -, rfl⟩ := hx
    exact absurd hlt (Nat.lt_irrefl _)) (Nat.le_refl _) (by omega)
  exact ⟨T6, some (.ref s.heap.size), _, _, _, X8, rfl, rfl, rfl, (fun h => by cases h), ⟨⟨rfl, B6, ba3.like (X3.warmed.alike.symm.trans X6.warmed.alike) p6.1 f6.1 f6.2.1 f6.2.2.1, f6.2.1.trans bv3, by rw [X6.warmed.alike.findClass, f6.1]; exact bf3, by rw [f6.2.2.1, bs3]; simp, fun j hj => by rw [f6.2.2.2 j, if_pos (by omega)]; rfl, kp3.put p6 (Nat.le_refl _)⟩, by rw [p6.2.2, bh3, hh0]; simp⟩, fun fs hl => c8.trans (X8.areturnOut hexec rfl hret rfl (hb hbytes d58) hl)⟩
end Cmp3
namespace CodL
def yN : MethodName := ⟨"java/lang/StringUTF16", "coderFromArrayLen", "([BI)B"⟩
abbrev yB : ByteArray := jdk_52_method_15_code
theorem d0 : decode yB 0 = .ok (.iload_n 1, 1) := by decide +kernel
theorem d1 : decode yB 1 = .ok (.aload_n 0, 1) := by decide +kernel
theorem d2 : decode yB 2 = .ok (.arraylength, 1) := by decide +kernel
theorem d3 : decode yB 3 = .ok (.isub, 1) := by decide +kernel
theorem d4 : decode yB 4 = .ok (.bipush 31, 2) := by decide +kernel
theorem d6 : decode yB 6 = .ok (.iushr, 1) := by decide +kernel
theorem d7 : decode yB 7 = .ok (.i2b, 1) := by decide +kernel
theorem d8 : decode yB 8 = .ok (.ireturn, 1) := by decide +kernel
def site : List Cond := []
def tab : Cond := tabOf yN yB 2 (some .byte) site
def P (d : Addr) (B : Cell) (args : Array Value) (s : State) : Prop := args = #[.ref d, .int (Int32.ofNat B.slots.size)] ∧ Arr .byte d B s
def E (r : Option Value) (s u : State) : Prop := XT.PureE (some (.int 0)) r s u
/-- an array as long as the number of chars: LATIN1 -/
theorem law (l : Launch) (d : Addr) (B : Cell) : Law l yN 2 2 0 0 yB 2 (some .byte) site (P d B) E [] 0 0 := by
  refine Law.of_walk (plainFor_of_name (by decide +kernel)) (by decide +kernel) (by decide +kernel) (by decide) (fun _ _ h => by rw [h.1]; rfl) (fun _ U U' hal hh h => ⟨h.1, h.2.mv hal hh⟩) (fun r U U' V V' h1 hal h2 h => XT.PureE.mv r U U' V V' h1 hal h2 h) ?_
  intro p e s m args below meth c s₁ X0 hexec hbytes hml hret hlk hnm hown hh0 W hP
  obtain ⟨rfl, hB⟩ := hP
  have hB0 := hB.mv X0.warmed.alike hh0
  have c1 : Steps p.tables e below (s₁.setTop (entryFrame m #[.ref d, .int (Int32.ofNat B.slots.size)] 2)) (s₁.setTop (mkF m 0 #[.val (.ref d), .val (.int (Int32.ofNat B.slots.size))] [])) := entry rfl
  have c2 : Steps p.tables e below (s₁.setTop (entryFrame m #[.ref d, .int (Int32.ofNat B.slots.size)] 2)) (s₁.setTop (mkF m 2 #[.val (.ref d), .val (.int (Int32.ofNat B.slots.size))] [.ref d, .int (Int32.ofNat B.slots.size)])) := c1.trans (by
    refine XS.iloadN X0.here hexec rfl (hb hbytes d0) rfl ?_
    refine XS.aloadN X0.here hexec rfl (hb hbytes d1) rfl rfl ?_
    exact Steps.refl _)
  have c3 : Steps p.tables e below (s₁.setTop (entryFrame m #[.ref d, .int (Int32.ofNat B.slots.size)] 2)) (s₁.setTop (mkF m 8 #[.val (.ref d), .val (.int (Int32.ofNat B.slots.size))] [.int (lo8 (ushr (Int32.ofNat B.slots.size - Int32.ofNat B.slots.size) 31))])) := c2.trans (by
    refine X0.alen hexec hB0 rfl rfl (hb hbytes d2) ?_
    refine XS.isub X0.here hexec rfl (hb hbytes d3) rfl ?_
    refine bipushV X0.here hexec rfl 31 (hb hbytes d4) (by decide) ?_
    refine iushr X0.here hexec rfl (hb hbytes d6) rfl ?_
    refine i2b X0.here hexec rfl (hb hbytes d7) rfl ?_
    exact Steps.refl _)
  have e0 : lo8 (ushr (Int32.ofNat B.slots.size - Int32.ofNat B.slots.size) 31) = 0 := by rw [Int32.sub_self]; decide
  rw [e0] at c3
  exact ⟨s₁, some (.int 0), _, _, _, X0, rfl, rfl, rfl, (fun h => by cases h), ⟨rfl, hh0⟩, fun fs hl => c3.trans (X0.ireturnOut hexec hret rfl (Or.inr (Or.inr (Or.inl rfl))) (hb hbytes d8) hl)⟩
end CodL
/-- the String at a is Latin-1 over a new byte[] (the heap's one new cell): the low bytes of the len chars of A from o on; every cell but a is kept -/
def Got (a : Addr) (D : Cell) (fV fC : Field) (A : Cell) (o len : Nat) (r : Option Value) (s u : State) : Prop := r = none ∧ ∃ D' V : Cell, Blank "java/lang/String" a D' u ∧ Same D D' [fV.slot, fC.slot] ∧ D'.slots[fV.slot]? = some (.ref s.heap.size) ∧ D'.slots[fC.slot]? = some (.int 0) ∧ Arr .byte s.heap.size V u ∧ V.vm = .none ∧ u.vm.findClass "[B" = some V.cls ∧ V.slots.size = len ∧ (∀ j, j < len → V.slots[j]? = some (.int (lo8 (cv A (o + j))))) ∧ (∀ (y : Addr) (c : Cell), y ≠ a → s.heap[y]? = some c → u.heap[y]? = some c) ∧ u.heap.size = s.heap.size + 1
theorem Got.mv {a : Addr} {D A : Cell} {fV fC : Field} {o len : Nat} : ∀ r (U U' V V' : State), U'.heap = U.heap → V.vm.Alike V'.vm → V'.heap = V.heap → Got a D fV fC A o len r U V → Got a D fV fC A o len r U' V' :=
  fun r U U' V V' h1 hal h2 ⟨e0, D', X, a1, a2, a3, a4, a5, a6, a7, a8, a9, a10, a11⟩ => ⟨e0, D', X, a1.mv hal h2, a2, by rw [h1]; exact a3, a4, by rw [h1]; exact a5.mv hal h2, a6, by rw [hal.findClass]; exact a7, a8, a9, by rw [h1, h2]; exact a10, by rw [h1, h2]; exact a11⟩
namespace New4
def yN : MethodName := ⟨"java/lang/String", "<init>", "([CIILjava/lang/Void;)V"⟩
abbrev yB : ByteArray := jdk_42_method_149_code
theorem d0 : decode yB 0 = .ok (.aload_n 0, 1) := by decide +kernel
theorem d1 : decode yB 1 = .ok (.invokespecial 1, 3) := by decide +kernel
theorem d4 : decode yB 4 = .ok (.iload_n 3, 1) := by decide +kernel
theorem d5 : decode yB 5 = .ok (.ifCond (.ne) 22, 3) := by decide +kernel
theorem d27 : decode yB 27 = .ok (.getstatic 38, 3) := by decide +kernel
theorem d30 : decode yB 30 = .ok (.ifCond (.eq) 28, 3) := by decide +kernel
theorem d33 : decode yB 33 = .ok (.aload_n 1, 1) := by decide +kernel
theorem d34 : decode yB 34 = .ok (.iload_n 2, 1) := by decide +kernel
theorem d35 : decode yB 35 = .ok (.iload_n 3, 1) := by decide +kernel
theorem d36 : decode yB 36 = .ok (.invokestatic 177, 3) := by decide +kernel
theorem d39 : decode yB 39 = .ok (.astore 5, 2) := by decide +kernel
theorem d41 : decode yB 41 = .ok (.aload_n 0, 1) := by decide +kernel
theorem d42 : decode yB 42 = .ok (.aload 5, 2) := by decide +kernel
theorem d44 : decode yB 44 = .ok (.iload_n 3, 1) := by decide +kernel
theorem d45 : decode yB 45 = .ok (.invokestatic 47, 3) := by decide +kernel
theorem d48 : decode yB 48 = .ok (.putfield 15, 3) := by decide +kernel
theorem d51 : decode yB 51 = .ok (.aload_n 0, 1) := by decide +kernel
theorem d52 : decode yB 52 = .ok (.aload 5, 2) := by decide +kernel
theorem d54 : decode yB 54 = .ok (.putfield 9, 3) := by decide +kernel
theorem d57 : decode yB 57 = .ok (.return_, 1) := by decide +kernel
def site : List Cond := [.fieldLink "java/lang/String" 38 "java/lang/String" "COMPACT_STRINGS" "Z", Cmp3.tab, CodL.tab, .laysFinal "java/lang/String" "java/lang/String" "value" "[B", .fieldLink "java/lang/String" 9 "java/lang/String" "value" "[B", .laysFinal "java/lang/String" "java/lang/String" "coder" "B", .fieldLink "java/lang/String" 15 "java/lang/String" "coder" "B"] ++ objW "java/lang/String" 1 ++ staticW "java/lang/String" 177 Cmp3.yN ++ staticW "java/lang/String" 47 CodL.yN
def tab : Cond := tabOf yN yB 6 none site
def P (a : Addr) (D : Cell) (fV fC : Field) (b : Addr) (A : Cell) (z : Int32) (o len : Nat) (args : Array Value) (s : State) : Prop := args = #[.ref a, .ref b, .int (Int32.ofNat o), .int (Int32.ofNat len), .null] ∧ Blank "java/lang/String" a D s ∧ Found "java/lang/String" "value" "[B" fV s ∧ Found "java/lang/String" "coder" "B" fC s ∧ Ch b A s ∧ StaticIs s "java/lang/String" "COMPACT_STRINGS" "Z" (.int z) ∧ ¬ z = 0 ∧ 0 < len ∧ o + len ≤ A.slots.size ∧ len ≤ 536870912 ∧ ∀ i, i < len → ¬ 255 < cv A (o + i)
def E (a : Addr) (D : Cell) (fV fC : Field) (A : Cell) (o len : Nat) (r : Option Value) (s u : State) : Prop := Got a D fV fC A o len r s u
/-- len > 0, no char of the range above 255: a Latin-1 String of their low bytes -/
theorem law (l : Launch) (a : Addr) (D : Cell) (fV fC : Field) (b : Addr) (A : Cell) (z : Int32) (o len : Nat) : Law l yN 5 4 2 35 yB 6 none site (P a D fV fC b A z o len) (E a D fV fC A o len) [⟨a, fC.slot⟩, ⟨a, fV.slot⟩] 1 len := by
  refine Law.of_walk (plainFor_of_name (by decide +kernel)) (by decide +kernel) (by decide +kernel) (by decide) (fun _ _ h => by rw [h.1]; rfl) (fun _ U U' hal hh h => ⟨h.1, h.2.1.mv hal hh, h.2.2.1.al hal, h.2.2.2.1.al hal, h.2.2.2.2.1.mv hal hh, h.2.2.2.2.2.1.there hal hh, h.2.2.2.2.2.2⟩) (fun r U U' V V' h1 hal h2 h => Got.mv r U U' V V' h1 hal h2 h) ?_
  intro p e s m args below meth c s₁ X0 hexec hbytes hml hret hlk hnm hown hh0 W hP
  obtain ⟨rfl, hB, f1, f2, hA, s1, hz, l0, l1, l2, hp⟩ := hP
  have a31 := hA.1.2.2.2
  have c1 : Steps p.tables e below (s₁.setTop (entryFrame m #[.ref a, .ref b, .int (Int32.ofNat o), .int (Int32.ofNat len), .null] 6)) (s₁.setTop (mkF m 0 #[.val (.ref a), .val (.ref b), .val (.int (Int32.ofNat o)), .val (.int (Int32.ofNat len)), .val .null, .unset] [])) := entry rfl
  have c2 : Steps p.tables e below (s₁.setTop (entryFrame m #[.ref a, .ref b, .int (Int32.ofNat o), .int (Int32.ofNat len), .null] 6)) (s₁.setTop (mkF m 1 #[.val (.ref a), .val (.ref b), .val (.int (Int32.ofNat o)), .val (.int (Int32.ofNat len)), .val .null, .unset] [.ref a])) := c1.trans (by
    refine XS.aloadN X0.here hexec rfl (hb hbytes d0) rfl rfl ?_
    exact Steps.refl _)
  obtain ⟨T3, X3, q3, st3⟩ := X0.oinit hexec hown (wks W (objW "java/lang/String" 1)) (g := (mkF m 1 #[.val (.ref a), .val (.ref b), .val (.int (Int32.ofNat o)), .val (.int (Int32.ofNat len)), .val .null, .unset] [.ref a])) rfl (by rw [hml]; rfl) (rest := []) rfl (hb hbytes d1) (W := 0) (by show 2 * 0 + 0 ≤ _; decide) (Nat.le_of_ble_eq_true rfl) (Nat.le_of_ble_eq_true rfl)
  have hh3 := q3.trans hh0
  have c4 : Steps p.tables e below (s₁.setTop (entryFrame m #[.ref a, .ref b, .int (Int32.ofNat o), .int (Int32.ofNat len), .null] 6)) (T3.setTop (mkF m 27 #[.val (.ref a), .val (.ref b), .val (.int (Int32.ofNat o)), .val (.int (Int32.ofNat len)), .val .null, .unset] [])) := (c2.trans (st3 _ (Steps.refl _))).trans (by
    refine XS.iloadN X3.here hexec rfl (hb hbytes d4) rfl ?_
    refine XS.ifYes X3.here hexec rfl (pc0 := 5) rfl (hb hbytes d5) rfl (i0_ne_t (nz32 (by omega) l0)) (by decide) rfl ?_
    exact Steps.refl _)
  obtain ⟨T5, X5, q5, st5⟩ := X3.sget hexec hown (wk W (.fieldLink "java/lang/String" 38 "java/lang/String" "COMPACT_STRINGS" "Z")) s1 (fun _ _ h => by rw [hh3]; exact h) (g := (mkF m 27 #[.val (.ref a), .val (.ref b), .val (.int (Int32.ofNat o)), .val (.int (Int32.ofNat len)), .val .null, .unset] [])) rfl (hb hbytes d27)
  have hh5 := q5.trans hh3
  have c6 : Steps p.tables e below (s₁.setTop (entryFrame m #[.ref a, .ref b, .int (Int32.ofNat o), .int (Int32.ofNat len), .null] 6)) (T5.setTop (mkF m 30 #[.val (.ref a), .val (.ref b), .val (.int (Int32.ofNat o)), .val (.int (Int32.ofNat len)), .val .null, .unset] [.int z])) := c4.trans (st5 _ (Steps.refl _))
  have c7 : Steps p.tables e below (s₁.setTop (entryFrame m #[.ref a, .ref b, .int (Int32.ofNat o), .int (Int32.ofNat len), .null] 6)) (T5.setTop (mkF m 36 #[.val (.ref a), .val (.ref b), .val (.int (Int32.ofNat o)), .val (.int (Int32.ofNat len)), .val .null, .unset] [.int (Int32.ofNat len), .int (Int32.ofNat o), .ref b])) := c6.trans (by
    refine XS.ifNo X5.here hexec rfl (hb hbytes d30) rfl (i0_eq_f hz) ?_
    refine XS.aloadN X5.here hexec rfl (hb hbytes d33) rfl rfl ?_
    refine XS.iloadN X5.here hexec rfl (hb hbytes d34) rfl ?_
    refine XS.iloadN X5.here hexec rfl (hb hbytes d35) rfl ?_
    exact Steps.refl _)
  obtain ⟨v8, T8, X8, E8, g8⟩ := X5.callS hexec (Cmp3.law l b A o len) hown (wks W (staticW "java/lang/String" 177 Cmp3.yN)) (wk W Cmp3.tab) (W := 0) (Nat.le_of_ble_eq_true rfl) (Nat.le_of_ble_eq_true rfl) (Nat.le_refl _) (by show 0 + len ≤ len; omega) (g := (mkF m 36 #[.val (.ref a), .val (.ref b), .val (.int (Int32.ofNat o)), .val (.int (Int32.ofNat len)), .val .null, .unset] [.int (Int32.ofNat len), .int (Int32.ofNat o), .ref b])) rfl (by rw [hml]; rfl) c7 (argsL := [.ref b, .int (Int32.ofNat o), .int (Int32.ofNat len)]) (rest := []) rfl rfl (by show 2 * 0 + 0 ≤ _; decide) (hb hbytes d36) (⟨rfl, hA.mv X5.warmed.alike hh5, l1, l2, hp⟩)
  obtain ⟨e8, z8⟩ := E8
  obtain ⟨rfl, N, n1, n2, n3, n4, n5, n6⟩ := NewArr.mv _ T5 s _ _ hh5.symm (Vm.Alike.refl _) rfl e8
  rw [hh5] at z8
  have hB1 := hB.keep X8.warmed.alike (n6 _ _ hB.1)
  have hne : s.heap.size ≠ a := (Nat.ne_of_lt (Array.getElem?_eq_some_iff.mp hB.1).1).symm
  have c9 : Steps p.tables e below (s₁.setTop (entryFrame m #[.ref a, .ref b, .int (Int32.ofNat o), .int (Int32.ofNat len), .null] 6)) (T8.setTop (mkF m 39 #[.val (.ref a), .val (.ref b), .val (.int (Int32.ofNat o)), .val (.int (Int32.ofNat len)), .val .null, .unset] [.ref s.heap.size])) := g8
  have c10 : Steps p.tables e below (s₁.setTop (entryFrame m #[.ref a, .ref b, .int (Int32.ofNat o), .int (Int32.ofNat len), .null] 6)) (T8.setTop (mkF m 45 #[.val (.ref a), .val (.ref b), .val (.int (Int32.ofNat o)), .val (.int (Int32.ofNat len)), .val .null, .val (.ref s.heap.size)] [.int (Int32.ofNat N.slots.size), .ref s.heap.size, .ref a])) := by
    have hc : Steps p.tables e below (s₁.setTop (entryFrame m #[.ref a, .ref b, .int (Int32.ofNat o), .int (Int32.ofNat len), .null] 6)) (T8.setTop (mkF m 45 #[.val (.ref a), .val (.ref b), .val (.int (Int32.ofNat o)), .val (.int (Int32.ofNat len)), .val .null, .val (.ref s.heap.size)] [.int (Int32.ofNat len), .ref s.heap.size, .ref a])) := c9.trans (by
      refine XS.astore X8.here hexec rfl (hb hbytes d39) rfl rfl rfl ?_
      refine XS.aloadN X8.here hexec rfl (hb hbytes d41) rfl rfl ?_
      refine XS.aload X8.here hexec rfl (hb hbytes d42) rfl rfl ?_
      refine XS.iloadN X8.here hexec rfl (hb hbytes d44) rfl ?_
      exact Steps.refl _)
    rw [n4]; exact hc
  obtain ⟨v11, T11, X11, E11, g11⟩ := X8.callS hexec (CodL.law l s.heap.size N) hown (wks W (staticW "java/lang/String" 47 CodL.yN)) (wk W CodL.tab) (W := 1) (Nat.le_of_ble_eq_true rfl) (Nat.le_of_ble_eq_true rfl) (Nat.le_refl _) (by show 0 + len + 0 ≤ len; omega) (g := (mkF m 45 #[.val (.ref a), .val (.ref b), .val (.int (Int32.ofNat o)), .val (.int (Int32.ofNat len)), .val .null, .val (.ref s.heap.size)] [.int (Int32.ofNat N.slots.size), .ref s.heap.size, .ref a])) rfl (by rw [hml]; rfl) c10 (argsL := [.ref s.heap.size, .int (Int32.ofNat N.slots.size)]) (rest := [.ref a]) rfl rfl (by show 2 * 0 + (1 + 0) ≤ _; decide) (hb hbytes d45) (⟨rfl, n1⟩)
  obtain ⟨rfl, q11⟩ := E11
  have hB11 := hB1.mv (X8.warmed.alike.symm.trans X11.warmed.alike) q11
  have c12 : Steps p.tables e below (s₁.setTop (entryFrame m #[.ref a, .ref b, .int (Int32.ofNat o), .int (Int32.ofNat len), .null] 6)) (T11.setTop (mkF m 48 #[.val (.ref a), .val (.ref b), .val (.int (Int32.ofNat o)), .val (.int (Int32.ofNat len)), .val .null, .val (.ref s.heap.size)] [.int 0, .ref a])) := g11
  obtain ⟨T13, X13, p13, bl13, sl13, st13⟩ := X11.finit hexec hown (wk W (.fieldLink "java/lang/String" 15 "java/lang/String" "coder" "B")) (Or.inr ⟨_, (wk W (.laysFinal "java/lang/String" "java/lang/String" "coder" "B"))⟩) (Or.inl ⟨rfl, hnm⟩) f2 (Or.inl rfl) hB11 (t := .byte) (by decide +kernel) rfl (g := (mkF m 48 #[.val (.ref a), .val (.ref b), .val (.int (Int32.ofNat o)), .val (.int (Int32.ofNat len)), .val .null, .val (.ref s.heap.size)] [.int 0, .ref a])) rfl (rest := []) rfl (hb hbytes d48)
  have c14 : Steps p.tables e below (s₁.setTop (entryFrame m #[.ref a, .ref b, .int (Int32.ofNat o), .int (Int32.ofNat len), .null] 6)) (T13.setTop (mkF m 54 #[.val (.ref a), .val (.ref b), .val (.int (Int32.ofNat o)), .val (.int (Int32.ofNat len)), .val .null, .val (.ref s.heap.size)] [.ref s.heap.size, .ref a])) := (c12.trans (st13 _ (Steps.refl _))).trans (by
    refine XS.aloadN X13.here hexec rfl (hb hbytes d51) rfl rfl ?_
    refine XS.aload X13.here hexec rfl (hb hbytes d52) rfl rfl ?_
    exact Steps.refl _)
  obtain ⟨T15, X15, p15, bl15, sl15, st15⟩ := X13.finit hexec hown (wk W (.fieldLink "java/lang/String" 9 "java/lang/String" "value" "[B")) (Or.inr ⟨_, (wk W (.laysFinal "java/lang/String" "java/lang/String" "value" "[B"))⟩) (Or.inl ⟨rfl, hnm⟩) f1 (Or.inl rfl) bl13 (t := (.array .byte)) (by decide +kernel) rfl (g := (mkF m 54 #[.val (.ref a), .val (.ref b), .val (.int (Int32.ofNat o)), .val (.int (Int32.ofNat len)), .val .null, .val (.ref s.heap.size)] [.ref s.heap.size, .ref a])) rfl (rest := []) rfl (hb hbytes d54)
  have c16 : Steps p.tables e below (s₁.setTop (entryFrame m #[.ref a, .ref b, .int (Int32.ofNat o), .int (Int32.ofNat len), .null] 6)) (T15.setTop (mkF m 57 #[.val (.ref a), .val (.ref b), .val (.int (Int32.ofNat o)), .val (.int (Int32.ofNat len)), .val .null, .val (.ref s.heap.size)] [])) := c14.trans (st15 _ (Steps.refl _))
  have ap := apart (Or.inr ⟨_, (wk W (.laysFinal "java/lang/String" "java/lang/String" "value" "[B"))⟩) (Or.inr ⟨_, (wk W (.laysFinal "java/lang/String" "java/lang/String" "coder" "B"))⟩) f1 f2 (t₁ := .array .byte) (t₂ := .byte) (by decide +kernel) (by decide +kernel) (by decide)
  have al := X8.warmed.alike.symm.trans X15.warmed.alike
  have n7 : T11.heap[s.heap.size]? = some N := by rw [q11]; exact n1.1
  exact ⟨T15, none, _, _, _, X15, by simp, rfl, by omega, (fun _ => rfl), ⟨rfl, _, N, bl15, ((Same.refl D _).set _ (by simp)).set _ (by simp), sl15, (Cell.slots_setSlot_ne _ ap).trans sl13, n1.keep al (p15.other hne (p13.other hne n7)), n2, by rw [al.findClass]; exact n3, n4, n5, fun y c h1 h2 => p15.other h1 (p13.other h1 (by rw [q11]; exact n6 y c h2)), by rw [p15.2.2, p13.2.2, q11]; exact z8⟩, fun fs hl => c16.trans (X15.returnOut hexec hret (hb hbytes d57) hl)⟩
end New4
namespace New1
def yN : MethodName := ⟨"java/lang/String", "<init>", "([C)V"⟩
abbrev yB : ByteArray := jdk_42_method_3_code
theorem d0 : decode yB 0 = .ok (.aload_n 0, 1) := by decide +kernel
theorem d1 : decode yB 1 = .ok (.aload_n 1, 1) := by decide +kernel
theorem d2 : decode yB 2 = .ok (.iconst 0, 1) := by decide +kernel
theorem d3 : decode yB 3 = .ok (.aload_n 1, 1) := by decide +kernel
theorem d4 : decode yB 4 = .ok (.arraylength, 1) := by decide +kernel
theorem d5 : decode yB 5 = .ok (.aconst_null, 1) := by decide +kernel
theorem d6 : decode yB 6 = .ok (.invokespecial 27, 3) := by decide +kernel
theorem d9 : decode yB 9 = .ok (.return_, 1) := by decide +kernel
def site : List Cond := [New4.tab] ++ initW "java/lang/String" 27 New4.yN
def tab : Cond := tabOf yN yB 2 none site
def P (a : Addr) (D : Cell) (fV fC : Field) (b : Addr) (A : Cell) (z : Int32) (args : Array Value) (s : State) : Prop := args = #[.ref a, .ref b] ∧ Blank "java/lang/String" a D s ∧ Found "java/lang/String" "value" "[B" fV s ∧ Found "java/lang/String" "coder" "B" fC s ∧ Ch b A s ∧ StaticIs s "java/lang/String" "COMPACT_STRINGS" "Z" (.int z) ∧ ¬ z = 0 ∧ 0 < A.slots.size ∧ A.slots.size ≤ 536870912 ∧ ∀ i, i < A.slots.size → ¬ 255 < cv A i
def E (a : Addr) (D : Cell) (fV fC : Field) (A : Cell) (r : Option Value) (s u : State) : Prop := Got a D fV fC A 0 A.slots.size r s u
/-- new String(chars), not empty, no char above 255: a Latin-1 String of their low bytes -/
theorem law (l : Launch) (a : Addr) (D : Cell) (fV fC : Field) (b : Addr) (A : Cell) (z : Int32) : Law l yN 2 1 3 52 yB 2 none site (P a D fV fC b A z) (E a D fV fC A) [⟨a, fC.slot⟩, ⟨a, fV.slot⟩] 1 A.slots.size := by
  refine Law.of_walk (plainFor_of_name (by decide +kernel)) (by decide +kernel) (by decide +kernel) (by decide) (fun _ _ h => by rw [h.1]; rfl) (fun _ U U' hal hh h => ⟨h.1, h.2.1.mv hal hh, h.2.2.1.al hal, h.2.2.2.1.al hal, h.2.2.2.2.1.mv hal hh, h.2.2.2.2.2.1.there hal hh, h.2.2.2.2.2.2⟩) (fun r U U' V V' h1 hal h2 h => Got.mv r U U' V V' h1 hal h2 h) ?_
  intro p e s m args below meth c s₁ X0 hexec hbytes hml hret hlk hnm hown hh0 W hP
  obtain ⟨rfl, hB, f1, f2, hA, s1, hz, l0, l2, hp⟩ := hP
  have c1 : Steps p.tables e below (s₁.setTop (entryFrame m #[.ref a, .ref b] 2)) (s₁.setTop (mkF m 0 #[.val (.ref a), .val (.ref b)] [])) := entry rfl
  have c2 : Steps p.tables e below (s₁.setTop (entryFrame m #[.ref a, .ref b] 2)) (s₁.setTop (mkF m 6 #[.val (.ref a), .val (.ref b)] [.null, .int (Int32.ofNat A.slots.size), .int 0, .ref b, .ref a])) := c1.trans (by
    refine XS.aloadN X0.here hexec rfl (hb hbytes d0) rfl rfl ?_
    refine XS.aloadN X0.here hexec rfl (hb hbytes d1) rfl rfl ?_
    refine iconstV X0.here hexec rfl 0 (hb hbytes d2) (by decide) ?_
    refine XS.aloadN X0.here hexec rfl (hb hbytes d3) rfl rfl ?_
    refine X0.alen hexec (hA.1.mv X0.warmed.alike hh0) rfl rfl (hb hbytes d4) ?_
    refine XS.aconstNull X0.here hexec rfl (hb hbytes d5) ?_
    exact Steps.refl _)
  obtain ⟨v3, T3, X3, E3, g3⟩ := X0.callN hexec (New4.law l a D fV fC b A z 0 A.slots.size) rfl hown (wks W (initW "java/lang/String" 27 New4.yN)) (W New4.tab (by simp only [site, List.mem_cons, List.mem_append, true_or, or_true])) (W := 0) (Nat.le_of_ble_eq_true rfl) (Nat.le_of_ble_eq_true rfl) (Nat.le_refl _) (by show 0 + A.slots.size ≤ A.slots.size; omega) (g := (mkF m 6 #[.val (.ref a), .val (.ref b)] [.null, .int (Int32.ofNat A.slots.size), .int (Int32.ofNat 0), .ref b, .ref a])) rfl (by rw [hml]; rfl) c2 (argsL := [.ref b, .int (Int32.ofNat 0), .int (Int32.ofNat A.slots.size), .null]) (rest := []) rfl rfl (by show 2 * 0 + 0 ≤ _; decide) (hb hbytes d6) (⟨rfl, hB.mv X0.warmed.alike hh0, f1.al X0.warmed.alike, f2.al X0.warmed.alike, hA.mv X0.warmed.alike hh0, s1.there X0.warmed.alike hh0, hz, l0, by omega, l2, fun i hi => by rw [Nat.zero_add]; exact hp i hi⟩)
  have e0 := Got.mv _ s₁ s _ _ hh0.symm (Vm.Alike.refl _) rfl E3
  obtain rfl := e0.1
  have c4 : Steps p.tables e below (s₁.setTop (entryFrame m #[.ref a, .ref b] 2)) (T3.setTop (mkF m 9 #[.val (.ref a), .val (.ref b)] [])) := g3
  exact ⟨T3, none, _, _, _, X3, by simp, rfl, by omega, (fun _ => rfl), e0, fun fs hl => c4.trans (X3.returnOut hexec hret (hb hbytes d9) hl)⟩
theorem pays {l : Launch} {R : Room} {p : Program} {e : Env} {below : List Frame} {s : State} {sargs : Array Value} {len W : Nat} (a : Addr) (D : Cell) (fV fC : Field) (b : Addr) (A : Cell) (z : Int32) (htab : tab.before sargs s = true) (hfr : 4 ≤ R.frames) (hlo : W + 65 ≤ R.locals) :
    Back l R p e below s sargs yN len W (fun A₁ a₁ => A₁.cells + 1 ≤ R.cells ∧ A₁.slots + A.slots.size ≤ R.slots ∧ P a D fV fC b A z a₁ A₁.U) (fun A₁ _ v₁ B₁ => E a D fV fC A v₁ A₁.U B₁.U ∧ B₁.locs = A₁.locs ++ [⟨a, fC.slot⟩, ⟨a, fV.slot⟩] ∧ B₁.cells = A₁.cells + 1 ∧ B₁.slots = A₁.slots + A.slots.size) :=
  (law l a D fV fC b A z).pays htab hfr (by omega)
end New1
/-- the byte, read back as charAt reads it, is the char -/
theorem lo8_mask {x : Int32} (h0 : ¬ x < 0) (h1 : ¬ 255 < x) : lo8 x &&& 255 = x := by
  have t : ∀ k : Fin 256, lo8 (Int32.ofNat k.val) &&& 255 = Int32.ofNat k.val := by decide +kernel
  rw [Int32.lt_iff_toInt_lt] at h0 h1
  have e0 : (0 : Int32).toInt = 0 := rfl
  have e1 : (255 : Int32).toInt = 255 := rfl
  obtain ⟨k, hk⟩ : ∃ k : Nat, x.toInt = k := ⟨x.toInt.toNat, by omega⟩
  have hx : x = Int32.ofNat k := Int32.toInt_inj.mp (by rw [hk, Int32.toInt_ofNat_small (by omega)])
  rw [hx]
  exact t ⟨k, by omega⟩
end StrChars
namespace StrChars.Road
open Jvm Sem ClassFile Op Lib Jvm.Stand Jvm.Free Jvm.Free.XT
open Jvm.Lib.Cold (StaticIs)
abbrev ST : String := "java/lang/String"
/-- every table word that New1's law asks, flat -/
abbrev words : List Jvm.Cond := [.code New1.yN New1.yB 2 none, .initialized ST, .methodLink ST 27 New4.yN, .instanceMethod New4.yN,
  .code New4.yN New4.yB 6 none, .fieldLink ST 38 ST "COMPACT_STRINGS" "Z", .laysFinal ST ST "value" "[B", .fieldLink ST 9 ST "value" "[B", .laysFinal ST ST "coder" "B", .fieldLink ST 15 ST "coder" "B",
  .methodLink ST 1 Lib.objectInit, .instanceMethod Lib.objectInit, .code Lib.objectInit ⟨#[0xb1]⟩ 1 none, .methodLink ST 177 Cmp3.yN, .static Cmp3.yN, .methodLink ST 47 CodL.yN, .static CodL.yN,
  .code Cmp3.yN Cmp3.yB 6 (some (.array .byte)), .initialized U16, .arrayClass .byte, .methodLink U16 115 Cmp5.yN, .static Cmp5.yN, .code Cmp5.yN Cmp5.yB 7 (some .int), .code CodL.yN CodL.yB 2 (some .byte)]
theorem tab_of {a : Array Value} {s : State} (h : ∀ w ∈ words, w.before a s = true) : New1.tab.before a s = true := by
  have h5 : Cmp5.tab.before a s = true := unparts (wk h (.code Cmp5.yN Cmp5.yB 7 (some .int))) (wks h (.initialized Cmp5.yN.cls :: Cmp5.site))
  have hc : CodL.tab.before a s = true := unparts (wk h (.code CodL.yN CodL.yB 2 (some .byte))) (wks h (.initialized CodL.yN.cls :: CodL.site))
  have q5 : ∀ w ∈ Cmp5.tab :: words, w.before a s = true := fun w hw => (List.mem_cons.mp hw).elim (fun e => e ▸ h5) (h w)
  have h3 : Cmp3.tab.before a s = true := unparts (wk q5 (.code Cmp3.yN Cmp3.yB 6 (some (.array .byte)))) (wks q5 (.initialized Cmp3.yN.cls :: Cmp3.site))
  have q3 : ∀ w ∈ Cmp3.tab :: CodL.tab :: words, w.before a s = true := fun w hw => (List.mem_cons.mp hw).elim (fun e => e ▸ h3) fun hw => (List.mem_cons.mp hw).elim (fun e => e ▸ hc) (h w)
  have h4 : New4.tab.before a s = true := unparts (wk q3 (.code New4.yN New4.yB 6 none)) (wks q3 (.initialized New4.yN.cls :: New4.site))
  have q4 : ∀ w ∈ New4.tab :: words, w.before a s = true := fun w hw => (List.mem_cons.mp hw).elim (fun e => e ▸ h4) (h w)
  exact unparts (wk q4 (.code New1.yN New1.yB 2 none)) (wks q4 (.initialized New1.yN.cls :: New1.site))
/-- the words ride from the start Z to the walk's own state -/
theorem moved {Z s : State} {a0 args : Array Value} (hZ : Z.Warmed39 s.vm) (hw : ∀ d ∈ words, d.before a0 Z = true) : ∀ d ∈ words, d.before args s = true := fun d hd => by
  have q := hw d hd
  have t : ∀ d ∈ words, d = .arrayClass .byte ∨ (d.onTables && d.keepsFace) = true := by decide +kernel
  rcases t d hd with rfl | t
  · exact RoadKit.mvA hZ q
  · exact RoadKit.mv hZ q t
/-- WHAT COMES BACK, over the tables of the start Z: h the heap at the call, h' behind it -/
def Q (Z : State) (x : Addr) (A : Cell) (h : Heap) (v : Option Value) (h' : Heap) (L : List Loc) : Prop := v = none ∧ (∀ y ∈ L, y.base = x) ∧ RoadKit.Keep h h' [x] ∧ h'.size = h.size + 1 ∧ RoadKit.Exa Z h' x ST ∧ RoadKit.Fld Z h' x ST "value" "[B" (.ref h.size) ∧ RoadKit.Fld Z h' x ST "coder" "B" (.int 0) ∧
  (∃ V : Cell, RoadKit.Arr Z h' h.size V .byte ∧ V.vm = .none ∧ Z.vm.findClass "[B" = some V.cls ∧ V.slots.size = A.slots.size ∧ ∀ j, j < A.slots.size → V.slots[j]? = some (.int (lo8 (cv A j)))) ∧
  ∀ (O n d : String) (w : Value), RoadKit.Fld Z h x O n d w → RoadKit.slotOf Z O n d ≠ RoadKit.slotOf Z ST "value" "[B" → RoadKit.slotOf Z O n d ≠ RoadKit.slotOf Z ST "coder" "B" → RoadKit.Fld Z h' x O n d w
/-- **new String(chars) AT A CALL, IN THE ROAD'S FORM**: for specialBack behind newO: x the fresh String, b the char[] with the cell A -/
theorem back {p : Program} {l : Launch} {e : Env} {R : Room} {s : State} {args : Array Value} {below : List Frame} {len W : Nat} {Z : State} {a0 : Array Value} {h : Heap} (hZ : Z.Warmed39 s.vm) (hw : ∀ d ∈ words, d.before a0 Z = true) {kI : Nat} (wi : (Jvm.Cond.instantiable ST kI).before a0 Z = true)
    {x b : Addr} {A : Cell} {z : Int32} {v0 c0 : Value} (E : RoadKit.Exa Z h x ST) (V : RoadKit.Fld Z h x ST "value" "[B" v0) (C : RoadKit.Fld Z h x ST "coder" "B" c0) (K : RoadKit.Arr Z h b A .char) (hty : Typed .char A) (S : RoadKit.Sta Z h ST "COMPACT_STRINGS" "Z" (.int z)) (hz : ¬ z = 0)
    (l0 : 0 < A.slots.size) (l2 : A.slots.size ≤ 536870912) (hp : ∀ i, i < A.slots.size → ¬ 255 < cv A i) (hfr : 4 ≤ R.frames) (hlo : W + 65 ≤ R.locals) :
    Back l R p e below s args New1.yN len W (fun P a => a = #[.ref x, .ref b] ∧ P.U.heap = h ∧ P.cells + 1 ≤ R.cells ∧ P.slots + A.slots.size ≤ R.slots)
      (fun P _ v B => ∃ L, Q Z x A h v B.U.heap L ∧ B.locs = P.locs ++ L ∧ B.cells = P.cells + 1 ∧ B.slots = P.slots + A.slots.size) := by
  intro m meth c P g ig mk a X hg hsize hdg hW hn hp'
  obtain ⟨rfl, rfl, r1, r2⟩ := hp'
  have al : Z.vm.Alike P.U.vm := hZ.alike.trans X.warmed.alike
  obtain ⟨D, cfV, kV, iV, fV, hD, gV, stV, knV, obV, asV, slV⟩ := id V
  obtain ⟨D', cfC, kC, iC, fC, hD', gC, stC, -, -, asC, slC⟩ := id C
  cases hD.symm.trans hD'
  obtain ⟨D2, kD, e1, e2, e3, e4, e5⟩ := id E
  cases hD.symm.trans e1
  obtain ⟨c2, k2, i1, i2, i3, -⟩ := Cond.instantiable_spec wi
  cases e2.symm.trans i1
  cases e3.symm.trans i2
  obtain ⟨kU, u1, u2⟩ := al.2.2 _ _ e3
  have hB : Blank ST x D P.U := ⟨hD, ⟨knV, fun q hq => by rw [hq] at obV; cases obV⟩, by rw [al.findClass]; exact e2, kU, u1, by rw [u2]; exact i3, by rw [u2]; exact e5 i3⟩
  have F1 : Found ST "value" "[B" fV P.U := ⟨SBG.found_only al ⟨cfV, kV, iV, gV⟩, stV⟩
  have F2 : Found ST "coder" "B" fC P.U := ⟨SBG.found_only al ⟨cfC, kC, iC, gC⟩, stC⟩
  have hA : Ch b A P.U := ⟨⟨K.1, State.isArrayOf_alike al K.2.1, K.2.2, by omega⟩, hty⟩
  have hS : StaticIs P.U ST "COMPACT_STRINGS" "Z" (.int z) := by
    obtain ⟨cfS, iS, kS, fS, st, cS, t1, t2, t3, t4, t5, t6, t7⟩ := S
    exact StaticIs.there (s := { Z with heap := P.U.heap }) ⟨cfS, iS, kS, fS, st, cS, t1, t2, t3, t4, t5, (fun q => by rw [q] at t6; cases t6), t7⟩ al rfl
  obtain ⟨v, B, X', ⟨⟨hv, E', V', q1, q2, q3, q4, q5, q6, q7, q8, q9, q10, q11⟩, hl, hc, hs⟩, st⟩ := New1.pays x D fV fC b A z (tab_of (moved hZ hw)) hfr hlo m meth c P g ig mk _ X hg hsize hdg hW hn ⟨r1, r2, rfl, hB, F1, F2, hA, hS, hz, l0, l2, hp⟩
  have al' : Z.vm.Alike B.U.vm := hZ.alike.trans X'.warmed.alike
  have hsz : E'.slots.size = D.slots.size := by
    obtain ⟨-, -, -, kB, w1, w2, w3⟩ := q1
    obtain ⟨kB', y1, y2⟩ := al'.2.2 _ _ e3
    rw [q2.2.1] at w1
    cases w1.symm.trans y1
    rw [w3, e5 i3, y2]
  refine ⟨v, B, X', ⟨_, ⟨hv, ?_, ⟨by omega, fun y cy hy hn' => q10 y cy (by simpa using hn') hy, fun y cy hy => ?_⟩, q11, ⟨E', _, q1.1, by rw [q2.2.1]; exact e2, by rw [q2.2.1]; exact e3, by rw [q2.1]; exact obV, fun _ => by rw [hsz]; exact e5 i3⟩,
    ⟨E', cfV, kV, iV, fV, q1.1, gV, stV, by rw [q2.1]; exact knV, by rw [q2.1]; exact obV, by rw [q2.2.1]; exact asV, q3⟩, ⟨E', cfC, kC, iC, fC, q1.1, gC, stC, by rw [q2.1]; exact knV, by rw [q2.1]; exact obV, by rw [q2.2.1]; exact asC, q4⟩,
    ⟨V', ⟨q5.1, State.isArrayOf_alike al'.symm q5.2.1, q5.2.2.1⟩, q6, by rw [← al'.findClass]; exact q7, q8, fun j hj => by have := q9 j hj; rwa [Nat.zero_add] at this⟩, fun O n d w F n1 n2 => ?_⟩, hl, hc, hs⟩, st⟩
  · intro y hy
    simp only [List.mem_cons, List.not_mem_nil, or_false] at hy
    rcases hy with rfl | rfl <;> rfl
  · by_cases q : y = x
    · subst q
      cases hD.symm.trans hy
      exact ⟨E', q1.1, q2.2.1, q2.1, hsz⟩
    · exact ⟨cy, q10 y cy q hy, rfl, rfl, rfl⟩
  · obtain ⟨D3, cf, k, i, f, g1, g2, g3, g4, g5, g6, g7⟩ := F
    cases hD.symm.trans g1
    simp only [RoadKit.slotOf, g2, gV, gC, Option.map_some, Option.getD_some] at n1 n2
    exact ⟨E', cf, k, i, f, q1.1, g2, g3, by rw [q2.1]; exact g4, by rw [q2.1]; exact g5, by rw [q2.2.1]; exact g6, by rw [q2.2.2 f.slot (by simp [n1, n2])]; exact g7⟩
end StrChars.Road
namespace StrChars.Road
open Jvm Sem ClassFile Op Lib Jvm.Stand Jvm.Free Jvm.Free.XT
/-- WHAT COMES BACK, the byte[] as a list of values -/
def QA (Z : State) (x : Addr) (zn : Int32) (cs : List Int32) (h : Heap) (v : Option Value) (h' : Heap) (L : List Loc) : Prop := v = none ∧ (∀ y ∈ L, y.base = x) ∧ RoadKit.Keep h h' [x] ∧ h'.size = h.size + 1 ∧ RoadKit.Exa Z h' x ST ∧ RoadKit.Fld Z h' x ST "value" "[B" (.ref h.size) ∧ RoadKit.Fld Z h' x ST "coder" "B" (.int 0) ∧
  (∃ kb, Z.vm.findClass "[B" = some kb ∧ RoadKit.Arv Z h' h.size kb .byte zn (cs.map fun c => .int (lo8 c)) (.int 0)) ∧
  ∀ (O n d : String) (w : Value), RoadKit.Fld Z h x O n d w → RoadKit.slotOf Z O n d ≠ RoadKit.slotOf Z ST "value" "[B" → RoadKit.slotOf Z O n d ≠ RoadKit.slotOf Z ST "coder" "B" → RoadKit.Fld Z h' x O n d w
/-- **new String(chars) AT A CALL, THE ARRAYS AS LISTS**: the char[] at b holds cs, not empty, no char above 255 -/
theorem backArv {p : Program} {l : Launch} {e : Env} {R : Room} {s : State} {args : Array Value} {below : List Frame} {len W : Nat} {Z : State} {a0 : Array Value} {h : Heap} (hZ : Z.Warmed39 s.vm) (hw : ∀ d ∈ words, d.before a0 Z = true) {kI : Nat} (wi : (Jvm.Cond.instantiable ST kI).before a0 Z = true)
    {x b : Addr} {k : ClassId} {zn z : Int32} {cs : List Int32} {dv v0 c0 : Value} (E : RoadKit.Exa Z h x ST) (V : RoadKit.Fld Z h x ST "value" "[B" v0) (C : RoadKit.Fld Z h x ST "coder" "B" c0) (K : RoadKit.Arv Z h b k .char zn (cs.map Value.int) dv) (S : RoadKit.Sta Z h ST "COMPACT_STRINGS" "Z" (.int z)) (hz : ¬ z = 0)
    (hlen : zn.toNatClampNeg = cs.length) (h0 : 0 < cs.length) (hbig : cs.length ≤ 536870912) (hall : ∀ c ∈ cs, ¬ 255 < c) (hfr : 4 ≤ R.frames) (hlo : W + 65 ≤ R.locals) :
    Back l R p e below s args New1.yN len W (fun P a => a = #[.ref x, .ref b] ∧ P.U.heap = h ∧ P.cells + 1 ≤ R.cells ∧ P.slots + cs.length ≤ R.slots)
      (fun P _ v B => ∃ L, QA Z x zn cs h v B.U.heap L ∧ B.locs = P.locs ++ L ∧ B.cells = P.cells + 1 ∧ B.slots = P.slots + cs.length) := by
  obtain ⟨A, K1, K2, K3, K4, K5, K6⟩ := K
  have e : A.slots.size = cs.length := K3.trans hlen
  have hat : ∀ (i : Nat) (hi : i < cs.length), A.slots[i]? = some (.int cs[i]) := fun i hi => by rw [K5 i (by omega)]; simp [List.getD_eq_getElem?_getD, hi]
  have hcv : ∀ (i : Nat) (hi : i < cs.length), cv A i = cs[i] := fun i hi => by unfold cv; rw [hat i hi]
  have hty : Typed .char A := fun i v hv => by
    have hi : i < A.slots.size := (Array.getElem?_eq_some_iff.mp hv).1
    have q := K5 i hi
    rw [hv] at q
    rw [Option.some.inj q]
    exact K6 i hi
  refine Back.mono (back hZ hw wi E V C K1 hty S hz (by omega) (by omega) (fun i hi => by rw [hcv i (by omega)]; exact hall _ (List.getElem_mem _)) hfr hlo) (fun P a hp => ⟨hp.1, hp.2.1, hp.2.2.1, by rw [e]; exact hp.2.2.2⟩) (fun P a v B hp hq => ?_)
  obtain ⟨L, ⟨q1, q2, q3, q4, q5, q6, q7, ⟨V', v1, v2, v3, v4, v5⟩, q9⟩, hl, hc, hs⟩ := hq
  refine ⟨L, ⟨q1, q2, q3, q4, q5, q6, q7, ⟨V'.cls, v3, V', v1, rfl, by rw [v4, e, hlen], K4, fun i hi => ?_, fun i hi => ?_⟩, q9⟩, hl, hc, by rw [hs, e]⟩
  · have hi' : i < cs.length := by omega
    rw [v5 i (by omega), hcv i hi']; simp [List.getD_eq_getElem?_getD, hi']
  · have hi' : i < cs.length := by omega
    simp only [List.getD_eq_getElem?_getD, List.getElem?_map, List.getElem?_eq_getElem hi', Option.map_some, Option.getD_some]
    exact fits_lo8 _
end StrChars.Road
namespace StrChars.Road
open Jvm Sem ClassFile Op Lib Jvm.Stand Jvm.Free Jvm.Free.XT
/-- WHAT COMES BACK, in the writer's own shape -/
def QV (Z : State) (x : Addr) (N : Int32) (bs : List Int32) (h : Heap) (n0 : Nat) (v : Option Value) (h' : Heap) (L : List Loc) : Prop := v = none ∧ RoadKit.Fr n0 L ∧ RoadKit.Keep h h' [x] ∧ RoadKit.Exa Z h' x ST ∧ RoadKit.Fld Z h' x ST "coder" "B" (.int 0) ∧
  ∃ (t : Addr) (kb : ClassId), n0 ≤ t ∧ h.size ≤ t ∧ ¬ t = x ∧ RoadKit.Fld Z h' x ST "value" "[B" (.ref t) ∧ RoadKit.Arv Z h' t kb .byte N (bs.map Value.int) (.int 0)
/-- **new String(chars) AT A CALL, FOR THE WRITER**: a char[] of n known ints, each 0 to 255 -/
theorem backV {p : Program} {l : Launch} {e : Env} {R : Room} {s : State} {args : Array Value} {below : List Frame} {len W : Nat} {Z : State} {a0 : Array Value} {h : Heap} (hZ : Z.Warmed39 s.vm) (hw : ∀ d ∈ words, d.before a0 Z = true) {kI : Nat} (wi : (Jvm.Cond.instantiable ST kI).before a0 Z = true)
    {x b : Addr} {kC : ClassId} {cs bs : List Int32} {d v0 c0 : Value} {z N : Int32} {n n0 : Nat} (hx0 : n0 ≤ x) (hh0 : n0 ≤ h.size) (E : RoadKit.Exa Z h x ST) (V : RoadKit.Fld Z h x ST "value" "[B" v0) (C : RoadKit.Fld Z h x ST "coder" "B" c0) (K : RoadKit.Arv Z h b kC .char N (cs.map Value.int) d) (S : RoadKit.Sta Z h ST "COMPACT_STRINGS" "Z" (.int z)) (hz : ¬ z = 0)
    (hn : cs.length = n) (hN : N = Int32.ofNat n) (l0 : 0 < n) (l2 : n ≤ 4000) (hp : ∀ c ∈ cs, ¬ c < 0 ∧ ¬ (255 : Int32) < c) (hb : bs = cs.map (fun c => c.toInt8.toInt32)) (hfr : 4 ≤ R.frames) (hlo : W + 65 ≤ R.locals) :
    Back l R p e below s args (⟨"java/lang/String", "<init>", "([C)V"⟩ : MethodName) len W (fun P a => a = #[.ref x, .ref b] ∧ P.U.heap = h ∧ P.cells + 1 ≤ R.cells ∧ P.slots + n ≤ R.slots)
      (fun P _ v B => ∃ L, QV Z x N bs h n0 v B.U.heap L ∧ B.locs = P.locs ++ L ∧ B.cells = P.cells + 1 ∧ B.slots = P.slots + n) := by
  subst hn hN hb
  refine Back.mono (backArv hZ hw wi E V C K S hz (n32 (by omega)) l0 (by omega) (fun c hc => (hp c hc).2) hfr hlo) (fun P a hp => hp) (fun P a v B hp hq => ?_)
  obtain ⟨L, ⟨q1, q2, q3, q4, q5, q6, q7, ⟨kb, v1, v2⟩, q9⟩, hl, hc, hs⟩ := hq
  exact ⟨L, ⟨q1, fun y hy => by rw [q2 y hy]; exact hx0, q3, q5, q7, h.size, kb, hh0, Nat.le_refl _, Nat.ne_of_gt E.lt, q6, by rw [List.map_map]; exact v2⟩, hl, hc, hs⟩
end StrChars.Road
namespace StrChars
open Jvm Sem ClassFile Op Lib Jvm.Stand Jvm.Free.XT Jvm.Free.ALB Jvm.Free.JM Jvm.Free
open Jvm.Lib.Cold (StaticIs)
def hi8 (x : Int32) : Int32 := lo8 (x >>> ((8 : Int32) &&& 31))
/-- what StringUTF16.getChar makes of two bytes -/
def pairCh (u v : Int32) : Int32 := (((u &&& 255) <<< ((0 : Int32) &&& 31)) ||| ((v &&& 255) <<< ((8 : Int32) &&& 31))).toUInt32.toUInt16.toUInt32.toInt32
theorem shr0 (c : Int32) : c >>> ((0 : Int32) &&& 31) = c := by
  have e : ((0 : Int32) &&& 31) = 0 := by decide
  rw [e]
  apply Int32.toBitVec_inj.mp
  rw [Int32.toBitVec_shiftRight]
  have e1 : ((0 : Int32).toBitVec.smod 32) = 0#32 := by decide
  rw [e1, BitVec.sshiftRight_eq']
  exact BitVec.sshiftRight_zero
theorem lo8_and (x : Int32) : (lo8 x &&& 255).toBitVec.toNat = x.toBitVec.toNat % 256 := by
  have h : (lo8 x).toBitVec = (x.toBitVec.signExtend 8).signExtend 32 := by rw [lo8, Int8.toBitVec_toInt32, Int32.toBitVec_toInt8]
  rw [Int32.toBitVec_and, BitVec.toNat_and, h]
  have e : ((x.toBitVec.signExtend 8).signExtend 32).toNat % 256 = x.toBitVec.toNat % 256 := by
    rw [BitVec.toNat_signExtend]
    have hlt := x.toBitVec.isLt
    simp only [BitVec.toNat_setWidth, BitVec.toNat_signExtend]
    split <;> split <;> omega
  rw [← e]
  exact Nat.and_two_pow_sub_one_eq_mod _ 8
theorem pair_says {c : Int32} (h0 : ¬ c < 0) (h1 : ¬ 65535 < c) : pairCh (lo8 c) (hi8 c) = c := by
  rw [Int32.lt_iff_toInt_lt] at h0 h1
  have e0 : (0 : Int32).toInt = 0 := rfl
  have e1 : (65535 : Int32).toInt = 65535 := rfl
  have hc : c.toInt = c.toBitVec.toNat := by
    have := c.toBitVec.isLt
    have e : c.toInt = c.toBitVec.toInt := rfl
    rw [e] at h0 h1
    rw [e]
    rw [BitVec.toInt_eq_toNat_cond] at h0 h1 ⊢
    split at h0 <;> split <;> omega
  have hn : c.toBitVec.toNat < 65536 := by omega
  have a1 := lo8_and c
  have a2 : (hi8 c &&& 255).toBitVec.toNat = c.toBitVec.toNat / 256 := by
    rw [hi8, lo8_and]
    have e : ((8 : Int32) &&& 31) = 8 := by decide
    rw [e, Int32.toBitVec_shiftRight]
    have e2 : ((8 : Int32).toBitVec.smod 32) = 8#32 := by decide
    rw [e2, BitVec.sshiftRight_eq', BitVec.toNat_sshiftRight_of_msb_false (by rw [BitVec.msb_eq_false_iff_two_mul_lt]; omega)]
    show c.toBitVec.toNat >>> 8 % 256 = _
    rw [Nat.shiftRight_eq_div_pow]
    omega
  unfold pairCh
  apply Int32.toBitVec_inj.mp
  apply BitVec.eq_of_toNat_eq
  have f0 : ((0 : Int32) &&& 31) = 0 := by decide
  have f8 : ((8 : Int32) &&& 31) = 8 := by decide
  rw [f0, f8]
  have g : (((lo8 c &&& 255) <<< (0 : Int32)) ||| ((hi8 c &&& 255) <<< (8 : Int32))).toBitVec.toNat = c.toBitVec.toNat := by
    rw [Int32.toBitVec_or, Int32.toBitVec_shiftLeft, Int32.toBitVec_shiftLeft]
    have s0 : ((0 : Int32).toBitVec.smod 32) = 0#32 := by decide
    have s8 : ((8 : Int32).toBitVec.smod 32) = 8#32 := by decide
    rw [s0, s8, BitVec.toNat_or]
    simp only [BitVec.shiftLeft_eq', BitVec.toNat_shiftLeft, a1, a2]
    show (c.toBitVec.toNat % 256) <<< 0 % 2 ^ 32 ||| (c.toBitVec.toNat / 256) <<< 8 % 2 ^ 32 = _
    rw [Nat.shiftLeft_zero, Nat.mod_eq_of_lt (show c.toBitVec.toNat % 256 < 2 ^ 32 by omega), Nat.mod_eq_of_lt (show (c.toBitVec.toNat / 256) <<< 8 < 2 ^ 32 by rw [Nat.shiftLeft_eq]; omega), Nat.or_comm, ← Nat.shiftLeft_add_eq_or_of_lt (by omega), Nat.shiftLeft_eq]
    omega
  show BitVec.toNat (((((lo8 c &&& 255) <<< (0 : Int32)) ||| ((hi8 c &&& 255) <<< (8 : Int32))).toBitVec.setWidth 16).setWidth 32) = _
  rw [BitVec.toNat_setWidth, BitVec.toNat_setWidth, g]
  omega
end StrChars
namespace StrChars
open Jvm Sem ClassFile Op Lib Jvm.Stand Jvm.Free.XT Jvm.Free.ALB Jvm.Free.JM Jvm.Free
open Jvm.Lib.Cold (StaticIs)
theorem shr1 {n : Nat} (h : 2 * n < 2 ^ 31) : Int32.ofNat (2 * n) >>> ((1 : Int32) &&& 31) = Int32.ofNat n := by
  have e : ((1 : Int32) &&& 31) = 1 := by decide
  rw [e]
  apply Int32.toBitVec_inj.mp
  rw [Int32.toBitVec_shiftRight]
  have e1 : ((1 : Int32).toBitVec.smod 32) = 1#32 := by decide
  have hm : (BitVec.ofNat 32 (2 * n)).toNat = 2 * n := by rw [BitVec.toNat_ofNat, Nat.mod_eq_of_lt (by omega)]
  rw [e1, BitVec.sshiftRight_eq']
  apply BitVec.eq_of_toNat_eq
  show ((BitVec.ofNat 32 (2 * n)).sshiftRight 1).toNat = (BitVec.ofNat 32 n).toNat
  rw [BitVec.toNat_sshiftRight_of_msb_false (by rw [BitVec.msb_eq_false_iff_two_mul_lt, hm]; omega), hm, BitVec.toNat_ofNat, Nat.shiftRight_eq_div_pow]
  omega
/-- charAt's cast of a byte read back -/
def chr8 (u : Int32) : Int32 := (u &&& 255).toUInt32.toUInt16.toUInt32.toInt32
theorem chr8_lo8 {c : Int32} (h0 : ¬ c < 0) (h1 : ¬ 255 < c) : chr8 (lo8 c) = c := by
  have t : ∀ k : Fin 256, (Int32.ofNat k.val).toUInt32.toUInt16.toUInt32.toInt32 = Int32.ofNat k.val := by decide +kernel
  unfold chr8
  rw [lo8_mask h0 h1]
  rw [Int32.lt_iff_toInt_lt] at h0 h1
  have e0 : (0 : Int32).toInt = 0 := rfl
  have e1 : (255 : Int32).toInt = 255 := rfl
  obtain ⟨k, hk⟩ : ∃ k : Nat, c.toInt = k := ⟨c.toInt.toNat, by omega⟩
  have hx : c = Int32.ofNat k := Int32.toInt_inj.mp (by rw [hk, Int32.toInt_ofNat_small (by omega)])
  rw [hx]
  exact t ⟨k, by omega⟩
theorem narrow_ch {c : Int32} (h0 : ¬ c < 0) (h1 : ¬ 65535 < c) : narrow .char (.int c) = .int c := by
  have q : narrow .char (.int (pairCh (lo8 c) (hi8 c))) = .int (pairCh (lo8 c) (hi8 c)) := narrow_c _
  rwa [pair_says h0 h1] at q
/-- the array's cell V codes the n chars f 0 .. f (n - 1) by the coder cd, as the JDK does: coder 1 just where some char is above 255 -/
def Cod (cd : Int32) (n : Nat) (f : Nat → Int32) (V : Cell) : Prop := (cd = 0 ∧ V.slots.size = n ∧ ∀ j, j < n → V.slots[j]? = some (.int (lo8 (f j))) ∧ ¬ 255 < f j) ∨ (cd = 1 ∧ V.slots.size = 2 * n ∧ (∀ j, j < n → V.slots[2 * j]? = some (.int (lo8 (f j))) ∧ V.slots[2 * j + 1]? = some (.int (hi8 (f j)))) ∧ ∃ j, j < n ∧ 255 < f j)
theorem Cod.cd {cd : Int32} {n : Nat} {f : Nat → Int32} {V : Cell} (h : Cod cd n f V) : cd = 0 ∨ cd = 1 := h.imp (fun q => q.1) fun q => q.1
theorem Cod.len {cd : Int32} {n : Nat} {f : Nat → Int32} {V : Cell} (h : Cod cd n f V) (hs : V.slots.size < 2 ^ 31) : Int32.ofNat V.slots.size >>> (cd &&& 31) = Int32.ofNat n := by
  rcases h with ⟨rfl, h, -⟩ | ⟨rfl, h, -⟩
  · rw [shr0, h]
  · rw [h, shr1 (by omega)]
/-- **x is a String of the n chars f 0 .. f (n - 1)**, Latin-1 or UTF-16; its array at t has the cell V -/
def Txt (x t : Addr) (V : Cell) (cd : Int32) (n : Nat) (f : Nat → Int32) (U : State) : Prop := Exact "java/lang/String" x U ∧ Has x "java/lang/String" "value" "[B" (.ref t) U ∧ Has x "java/lang/String" "coder" "B" (.int cd) U ∧ XT.Arr .byte t V U ∧ Cod cd n f V ∧ ∀ j, j < n → ¬ f j < 0 ∧ ¬ 65535 < f j
theorem Txt.mv {x t : Addr} {V : Cell} {cd : Int32} {n : Nat} {f : Nat → Int32} {U U' : State} (h : Txt x t V cd n f U) (hal : U.vm.Alike U'.vm) (hh : U'.heap = U.heap) : Txt x t V cd n f U' := ⟨h.1.mv hal hh, h.2.1.mv hal hh, h.2.2.1.mv hal hh, h.2.2.2.1.mv hal hh, h.2.2.2.2⟩
namespace Cdr
def yN : MethodName := ⟨"java/lang/String", "coder", "()B"⟩
abbrev yB : ByteArray := jdk_42_method_152_code
theorem d0 : decode yB 0 = .ok (.getstatic 38, 3) := by decide +kernel
theorem d3 : decode yB 3 = .ok (.ifCond (.eq) 10, 3) := by decide +kernel
theorem d6 : decode yB 6 = .ok (.aload_n 0, 1) := by decide +kernel
theorem d7 : decode yB 7 = .ok (.getfield 15, 3) := by decide +kernel
theorem d10 : decode yB 10 = .ok (.goto 4, 3) := by decide +kernel
theorem d14 : decode yB 14 = .ok (.ireturn, 1) := by decide +kernel
def site : List Cond := [.fieldLink "java/lang/String" 38 "java/lang/String" "COMPACT_STRINGS" "Z", .fieldLink "java/lang/String" 15 "java/lang/String" "coder" "B"]
def tab : Cond := tabOf yN yB 1 (some .byte) site
def P (x : Addr) (cd z : Int32) (args : Array Value) (s : State) : Prop := args = #[.ref x] ∧ Has x "java/lang/String" "coder" "B" (.int cd) s ∧ (cd = 0 ∨ cd = 1) ∧ StaticIs s "java/lang/String" "COMPACT_STRINGS" "Z" (.int z) ∧ ¬ z = 0
def E (cd : Int32) (r : Option Value) (s u : State) : Prop := XT.PureE (some (.int cd)) r s u
theorem law (l : Launch) (x : Addr) (cd z : Int32) : Law l yN 1 0 0 0 yB 1 (some .byte) site (P x cd z) (E cd) [] 0 0 := by
  refine Law.of_walk (plainFor_of_name (by decide +kernel)) (by decide +kernel) (by decide +kernel) (by decide) (fun _ _ h => by rw [h.1]; rfl) (fun _ U U' hal hh h => ⟨h.1, h.2.1.mv hal hh, h.2.2.1, h.2.2.2.1.there hal hh, h.2.2.2.2⟩) (fun r U U' V V' h1 hal h2 h => XT.PureE.mv r U U' V V' h1 hal h2 h) ?_
  intro p e s m args below meth c s₁ X0 hexec hbytes hml hret hlk hnm hown hh0 W hP
  obtain ⟨rfl, hx, hc, s1, hz⟩ := hP
  have c1 : Steps p.tables e below (s₁.setTop (entryFrame m #[.ref x] 1)) (s₁.setTop (mkF m 0 #[.val (.ref x)] [])) := entry rfl
  obtain ⟨T2, X2, q2, st2⟩ := X0.sget hexec hown (wk W (.fieldLink "java/lang/String" 38 "java/lang/String" "COMPACT_STRINGS" "Z")) s1 (fun _ _ h => by rw [hh0]; exact h) (g := (mkF m 0 #[.val (.ref x)] [])) rfl (hb hbytes d0)
  have hh2 := q2.trans hh0
  have c3 : Steps p.tables e below (s₁.setTop (entryFrame m #[.ref x] 1)) (T2.setTop (mkF m 7 #[.val (.ref x)] [.ref x])) := (c1.trans (st2 _ (Steps.refl _))).trans (by
    refine XS.ifNo X2.here hexec rfl (hb hbytes d3) rfl (i0_eq_f hz) ?_
    refine XS.aloadN X2.here hexec rfl (hb hbytes d6) rfl rfl ?_
    exact Steps.refl _)
  obtain ⟨T4, X4, q4, st4⟩ := X2.hget hexec hown (wk W (.fieldLink "java/lang/String" 15 "java/lang/String" "coder" "B")) (hx.mv X2.warmed.alike hh2) (g := (mkF m 7 #[.val (.ref x)] [.ref x])) rfl (rest := []) rfl (hb hbytes d7)
  have c5 : Steps p.tables e below (s₁.setTop (entryFrame m #[.ref x] 1)) (T4.setTop (mkF m 14 #[.val (.ref x)] [.int cd])) := (c3.trans (st4 _ (Steps.refl _))).trans (by
    refine XS.goto X4.here hexec rfl (pc0 := 10) rfl (hb hbytes d10) (by decide) rfl ?_
    exact Steps.refl _)
  exact ⟨T4, some (.int cd), _, _, _, X4, rfl, rfl, rfl, (fun h => by cases h), ⟨rfl, q4.trans hh2⟩, fun fs hl => c5.trans (X4.ireturnOut hexec hret (by rcases hc with rfl | rfl <;> rfl) (Or.inr (Or.inr (Or.inl rfl))) (hb hbytes d14) hl)⟩
end Cdr
namespace Len
def yN : MethodName := ⟨"java/lang/String", "length", "()I"⟩
abbrev yB : ByteArray := jdk_42_method_54_code
theorem d0 : decode yB 0 = .ok (.aload_n 0, 1) := by decide +kernel
theorem d1 : decode yB 1 = .ok (.getfield 9, 3) := by decide +kernel
theorem d4 : decode yB 4 = .ok (.arraylength, 1) := by decide +kernel
theorem d5 : decode yB 5 = .ok (.aload_n 0, 1) := by decide +kernel
theorem d6 : decode yB 6 = .ok (.invokevirtual 335, 3) := by decide +kernel
theorem d9 : decode yB 9 = .ok (.ishr, 1) := by decide +kernel
theorem d10 : decode yB 10 = .ok (.ireturn, 1) := by decide +kernel
def site : List Cond := [.fieldLink "java/lang/String" 9 "java/lang/String" "value" "[B", Cdr.tab] ++ virtW "java/lang/String" 335 "java/lang/String" Cdr.yN Cdr.yN
def tab : Cond := tabOf yN yB 1 (some .int) site
def P (x t : Addr) (V : Cell) (cd : Int32) (n : Nat) (f : Nat → Int32) (z : Int32) (args : Array Value) (s : State) : Prop := args = #[.ref x] ∧ Txt x t V cd n f s ∧ StaticIs s "java/lang/String" "COMPACT_STRINGS" "Z" (.int z) ∧ ¬ z = 0
def E (n : Nat) (r : Option Value) (s u : State) : Prop := XT.PureE (some (.int (Int32.ofNat n))) r s u
/-- length() of a String of n chars, in either coding -/
theorem law (l : Launch) (x t : Addr) (V : Cell) (cd : Int32) (n : Nat) (f : Nat → Int32) (z : Int32) : Law l yN 1 0 1 13 yB 1 (some .int) site (P x t V cd n f z) (E n) [] 0 0 := by
  refine Law.of_walk (plainFor_of_name (by decide +kernel)) (by decide +kernel) (by decide +kernel) (by decide) (fun _ _ h => by rw [h.1]; rfl) (fun _ U U' hal hh h => ⟨h.1, h.2.1.mv hal hh, h.2.2.1.there hal hh, h.2.2.2⟩) (fun r U U' V V' h1 hal h2 h => XT.PureE.mv r U U' V V' h1 hal h2 h) ?_
  intro p e s m args below meth c s₁ X0 hexec hbytes hml hret hlk hnm hown hh0 W hP
  obtain ⟨rfl, hx, s1, hz⟩ := hP
  have v31 := hx.2.2.2.1.2.2.2
  have c1 : Steps p.tables e below (s₁.setTop (entryFrame m #[.ref x] 1)) (s₁.setTop (mkF m 1 #[.val (.ref x)] [.ref x])) := Steps.trans (entry rfl) (by
    show Steps p.tables e below (s₁.setTop (mkF m 0 #[.val (.ref x)] [])) _
    refine XS.aloadN X0.here hexec rfl (hb hbytes d0) rfl rfl ?_
    exact Steps.refl _)
  obtain ⟨T2, X2, q2, st2⟩ := X0.hget hexec hown (wk W (.fieldLink "java/lang/String" 9 "java/lang/String" "value" "[B")) (hx.mv X0.warmed.alike hh0).2.1 (g := (mkF m 1 #[.val (.ref x)] [.ref x])) rfl (rest := []) rfl (hb hbytes d1)
  have hh2 := q2.trans hh0
  have hx2 := hx.mv X2.warmed.alike hh2
  have c3 : Steps p.tables e below (s₁.setTop (entryFrame m #[.ref x] 1)) (T2.setTop (mkF m 6 #[.val (.ref x)] [.ref x, .int (Int32.ofNat V.slots.size)])) := (c1.trans (st2 _ (Steps.refl _))).trans (by
    refine X2.alen hexec hx2.2.2.2.1 rfl rfl (hb hbytes d4) ?_
    refine XS.aloadN X2.here hexec rfl (hb hbytes d5) rfl rfl ?_
    exact Steps.refl _)
  obtain ⟨v4, T4, X4, E4, g4⟩ := X2.callV hexec (Cdr.law l x cd z) hown (wks W (virtW "java/lang/String" 335 "java/lang/String" Cdr.yN Cdr.yN)) rfl (by decide) (wk W Cdr.tab) (W := 1) (Nat.le_of_ble_eq_true rfl) (Nat.le_of_ble_eq_true rfl) (Nat.le_refl _) (Nat.le_refl _) (hx2.1.fc X2.warmed.alike) hx2.1.is (g := (mkF m 6 #[.val (.ref x)] [.ref x, .int (Int32.ofNat V.slots.size)])) rfl (by rw [hml]; rfl) c3 (argsL := []) (rest := [.int (Int32.ofNat V.slots.size)]) rfl rfl (by show 2 * 0 + (1 + 0) ≤ _; decide) (hb hbytes d6) (⟨rfl, hx2.2.2.1, hx.2.2.2.2.1.cd, s1.there X2.warmed.alike hh2, hz⟩)
  obtain ⟨rfl, q4⟩ := E4
  have c5 : Steps p.tables e below (s₁.setTop (entryFrame m #[.ref x] 1)) (T4.setTop (mkF m 10 #[.val (.ref x)] [.int (Int32.ofNat V.slots.size >>> (cd &&& 31))])) := Steps.trans g4 (by
    refine ishr X4.here hexec rfl (hb hbytes d9) rfl ?_
    exact Steps.refl _)
  rw [hx.2.2.2.2.1.len v31] at c5
  exact ⟨T4, some (.int (Int32.ofNat n)), _, _, _, X4, rfl, rfl, rfl, (fun h => by cases h), ⟨rfl, q4.trans hh2⟩, fun fs hl => c5.trans (X4.ireturnOut hexec hret rfl (Or.inl rfl) (hb hbytes d10) hl)⟩
theorem pays {l : Launch} {R : Room} {p : Program} {e : Env} {below : List Frame} {s : State} {sargs : Array Value} {len W : Nat} (x t : Addr) (V : Cell) (cd : Int32) (n : Nat) (f : Nat → Int32) (z : Int32) (htab : tab.before sargs s = true) (hfr : 2 ≤ R.frames) (hlo : W + 25 ≤ R.locals) :
    Back l R p e below s sargs yN len W (fun A₁ a₁ => A₁.cells + 0 ≤ R.cells ∧ A₁.slots + 0 ≤ R.slots ∧ P x t V cd n f z a₁ A₁.U) (fun A₁ _ v₁ B₁ => E n v₁ A₁.U B₁.U ∧ B₁.locs = A₁.locs ++ [] ∧ B₁.cells = A₁.cells + 0 ∧ B₁.slots = A₁.slots + 0) :=
  (law l x t V cd n f z).pays htab hfr (by omega)
end Len
namespace IsL
def yN : MethodName := ⟨"java/lang/String", "isLatin1", "()Z"⟩
abbrev yB : ByteArray := jdk_42_method_154_code
theorem d0 : decode yB 0 = .ok (.getstatic 38, 3) := by decide +kernel
theorem d3 : decode yB 3 = .ok (.ifCond (.eq) 14, 3) := by decide +kernel
theorem d6 : decode yB 6 = .ok (.aload_n 0, 1) := by decide +kernel
theorem d7 : decode yB 7 = .ok (.getfield 15, 3) := by decide +kernel
theorem d10 : decode yB 10 = .ok (.ifCond (.ne) 7, 3) := by decide +kernel
theorem d13 : decode yB 13 = .ok (.iconst 1, 1) := by decide +kernel
theorem d14 : decode yB 14 = .ok (.goto 4, 3) := by decide +kernel
theorem d17 : decode yB 17 = .ok (.iconst 0, 1) := by decide +kernel
theorem d18 : decode yB 18 = .ok (.ireturn, 1) := by decide +kernel
def site : List Cond := [.fieldLink "java/lang/String" 38 "java/lang/String" "COMPACT_STRINGS" "Z", .fieldLink "java/lang/String" 15 "java/lang/String" "coder" "B"]
def tab : Cond := tabOf yN yB 1 (some .boolean) site
def P (x : Addr) (cd z : Int32) (args : Array Value) (s : State) : Prop := args = #[.ref x] ∧ Has x "java/lang/String" "coder" "B" (.int cd) s ∧ (cd = 0 ∨ cd = 1) ∧ StaticIs s "java/lang/String" "COMPACT_STRINGS" "Z" (.int z) ∧ ¬ z = 0
def E (cd : Int32) (r : Option Value) (s u : State) : Prop := XT.PureE (some (.int (1 - cd))) r s u
theorem law (l : Launch) (x : Addr) (cd z : Int32) : Law l yN 1 0 0 0 yB 1 (some .boolean) site (P x cd z) (E cd) [] 0 0 := by
  refine Law.of_walk (plainFor_of_name (by decide +kernel)) (by decide +kernel) (by decide +kernel) (by decide) (fun _ _ h => by rw [h.1]; rfl) (fun _ U U' hal hh h => ⟨h.1, h.2.1.mv hal hh, h.2.2.1, h.2.2.2.1.there hal hh, h.2.2.2.2⟩) (fun r U U' V V' h1 hal h2 h => XT.PureE.mv r U U' V V' h1 hal h2 h) ?_
  intro p e s m args below meth c s₁ X0 hexec hbytes hml hret hlk hnm hown hh0 W hP
  obtain ⟨rfl, hx, hc, s1, hz⟩ := hP
  have c1 : Steps p.tables e below (s₁.setTop (entryFrame m #[.ref x] 1)) (s₁.setTop (mkF m 0 #[.val (.ref x)] [])) := entry rfl
  obtain ⟨T2, X2, q2, st2⟩ := X0.sget hexec hown (wk W (.fieldLink "java/lang/String" 38 "java/lang/String" "COMPACT_STRINGS" "Z")) s1 (fun _ _ h => by rw [hh0]; exact h) (g := (mkF m 0 #[.val (.ref x)] [])) rfl (hb hbytes d0)
  have hh2 := q2.trans hh0
  have c3 : Steps p.tables e below (s₁.setTop (entryFrame m #[.ref x] 1)) (T2.setTop (mkF m 7 #[.val (.ref x)] [.ref x])) := (c1.trans (st2 _ (Steps.refl _))).trans (by
    refine XS.ifNo X2.here hexec rfl (hb hbytes d3) rfl (i0_eq_f hz) ?_
    refine XS.aloadN X2.here hexec rfl (hb hbytes d6) rfl rfl ?_
    exact Steps.refl _)
  obtain ⟨T4, X4, q4, st4⟩ := X2.hget hexec hown (wk W (.fieldLink "java/lang/String" 15 "java/lang/String" "coder" "B")) (hx.mv X2.warmed.alike hh2) (g := (mkF m 7 #[.val (.ref x)] [.ref x])) rfl (rest := []) rfl (hb hbytes d7)
  have c5 : Steps p.tables e below (s₁.setTop (entryFrame m #[.ref x] 1)) (T4.setTop (mkF m 10 #[.val (.ref x)] [.int cd])) := c3.trans (st4 _ (Steps.refl _))
  have c6 : Steps p.tables e below (s₁.setTop (entryFrame m #[.ref x] 1)) (T4.setTop (mkF m 18 #[.val (.ref x)] [.int (1 - cd)])) := by
    rcases hc with rfl | rfl
    · exact c5.trans (by
        refine XS.ifNo X4.here hexec rfl (hb hbytes d10) rfl (i0_ne_f rfl) ?_
        refine iconstV X4.here hexec rfl 1 (hb hbytes d13) (by decide) ?_
        refine XS.goto X4.here hexec rfl (pc0 := 14) rfl (hb hbytes d14) (by decide) rfl ?_
        exact Steps.refl _)
    · exact c5.trans (by
        refine XS.ifYes X4.here hexec rfl (pc0 := 10) rfl (hb hbytes d10) rfl (i0_ne_t (by decide)) (by decide) rfl ?_
        refine iconstV X4.here hexec rfl 0 (hb hbytes d17) (by decide) ?_
        exact Steps.refl _)
  exact ⟨T4, some (.int (1 - cd)), _, _, _, X4, rfl, rfl, rfl, (fun h => by cases h), ⟨rfl, q4.trans hh2⟩, fun fs hl => c6.trans (X4.ireturnOut hexec hret (by rcases hc with rfl | rfl <;> rfl) (Or.inr (Or.inl rfl)) (hb hbytes d18) hl)⟩
end IsL
namespace LChA
def yN : MethodName := ⟨"java/lang/StringLatin1", "charAt", "([BI)C"⟩
abbrev yB : ByteArray := jdk_43_method_2_code
theorem d0 : decode yB 0 = .ok (.iload_n 1, 1) := by decide +kernel
theorem d1 : decode yB 1 = .ok (.aload_n 0, 1) := by decide +kernel
theorem d2 : decode yB 2 = .ok (.arraylength, 1) := by decide +kernel
theorem d3 : decode yB 3 = .ok (.invokestatic 9, 3) := by decide +kernel
theorem d6 : decode yB 6 = .ok (.aload_n 0, 1) := by decide +kernel
theorem d7 : decode yB 7 = .ok (.iload_n 1, 1) := by decide +kernel
theorem d8 : decode yB 8 = .ok (.baload, 1) := by decide +kernel
theorem d9 : decode yB 9 = .ok (.sipush 255, 3) := by decide +kernel
theorem d12 : decode yB 12 = .ok (.iand, 1) := by decide +kernel
theorem d13 : decode yB 13 = .ok (.i2c, 1) := by decide +kernel
theorem d14 : decode yB 14 = .ok (.ireturn, 1) := by decide +kernel
def site : List Cond := [JO.Str_checkIndex.tab] ++ staticW "java/lang/StringLatin1" 9 JO.Str_checkIndex.yN
def tab : Cond := tabOf yN yB 2 (some .char) site
def P (t : Addr) (V : Cell) (i : Nat) (u : Int32) (fm : Value) (args : Array Value) (s : State) : Prop := args = #[.ref t, .int (Int32.ofNat i)] ∧ XT.Arr .byte t V s ∧ V.slots[i]? = some (.int u) ∧ (StaticIs s "jdk/internal/util/Preconditions" "SIOOBE_FORMATTER" "Ljava/util/function/BiFunction;" fm ∧ fm.isRef = true)
def E (u : Int32) (r : Option Value) (s w : State) : Prop := XT.PureE (some (.int (chr8 u))) r s w
theorem law (l : Launch) (t : Addr) (V : Cell) (i : Nat) (u : Int32) (fm : Value) : Law l yN 2 2 2 27 yB 2 (some .char) site (P t V i u fm) (E u) [] 0 0 := by
  refine Law.of_walk (plainFor_of_name (by decide +kernel)) (by decide +kernel) (by decide +kernel) (by decide) (fun _ _ h => by rw [h.1]; rfl) (fun _ U U' hal hh h => ⟨h.1, h.2.1.mv hal hh, h.2.2.1, h.2.2.2.1.there hal hh, h.2.2.2.2⟩) (fun r U U' V V' h1 hal h2 h => XT.PureE.mv r U U' V V' h1 hal h2 h) ?_
  intro p e s m args below meth c s₁ X0 hexec hbytes hml hret hlk hnm hown hh0 W hP
  obtain ⟨rfl, hV, hu, s1, rf⟩ := hP
  have v31 := hV.2.2.2
  have hi : i < V.slots.size := (Array.getElem?_eq_some_iff.mp hu).1
  have c1 : Steps p.tables e below (s₁.setTop (entryFrame m #[.ref t, .int (Int32.ofNat i)] 2)) (s₁.setTop (mkF m 0 #[.val (.ref t), .val (.int (Int32.ofNat i))] [])) := entry rfl
  have c2 : Steps p.tables e below (s₁.setTop (entryFrame m #[.ref t, .int (Int32.ofNat i)] 2)) (s₁.setTop (mkF m 3 #[.val (.ref t), .val (.int (Int32.ofNat i))] [.int (Int32.ofNat V.slots.size), .int (Int32.ofNat i)])) := c1.trans (by
    refine XS.iloadN X0.here hexec rfl (hb hbytes d0) rfl ?_
    refine XS.aloadN X0.here hexec rfl (hb hbytes d1) rfl rfl ?_
    refine X0.alen hexec (hV.mv X0.warmed.alike hh0) rfl rfl (hb hbytes d2) ?_
    exact Steps.refl _)
  obtain ⟨v3, T3, X3, E3, g3⟩ := X0.callS hexec (JO.Str_checkIndex.law l (Int32.ofNat i) (Int32.ofNat V.slots.size) fm) hown (wks W (staticW "java/lang/StringLatin1" 9 JO.Str_checkIndex.yN)) (wk W JO.Str_checkIndex.tab) (W := 0) (Nat.le_of_ble_eq_true rfl) (Nat.le_of_ble_eq_true rfl) (Nat.le_refl _) (Nat.le_refl _) (g := (mkF m 3 #[.val (.ref t), .val (.int (Int32.ofNat i))] [.int (Int32.ofNat V.slots.size), .int (Int32.ofNat i)])) rfl (by rw [hml]; rfl) c2 (argsL := [.int (Int32.ofNat i), .int (Int32.ofNat V.slots.size)]) (rest := []) rfl rfl (by show 2 * 0 + 0 ≤ _; decide) (hb hbytes d3) (⟨rfl, rf, s1.there X0.warmed.alike hh0, Int32.ofNat_not_neg (by omega), lt32 v31 hi⟩)
  obtain ⟨rfl, q3⟩ := E3
  have hh3 := q3.trans hh0
  have c4 : Steps p.tables e below (s₁.setTop (entryFrame m #[.ref t, .int (Int32.ofNat i)] 2)) (T3.setTop (mkF m 14 #[.val (.ref t), .val (.int (Int32.ofNat i))] [.int (chr8 u)])) := Steps.trans g3 (by
    refine XS.aloadN X3.here hexec rfl (hb hbytes d6) rfl rfl ?_
    refine XS.iloadN X3.here hexec rfl (hb hbytes d7) rfl ?_
    refine X3.aget hexec (hV.mv X3.warmed.alike hh3) rfl hu rfl rfl (hb hbytes d8) ?_
    refine sipushV X3.here hexec rfl 255 (hb hbytes d9) (by decide) ?_
    refine XS.iand X3.here hexec rfl (hb hbytes d12) rfl ?_
    refine i2c X3.here hexec rfl (hb hbytes d13) rfl ?_
    exact Steps.refl _)
  exact ⟨T3, some (.int (chr8 u)), _, _, _, X3, rfl, rfl, rfl, (fun h => by cases h), ⟨rfl, hh3⟩, fun fs hl => c4.trans (X3.ireturnOut hexec hret (narrow_c _) (Or.inr (Or.inr (Or.inr (Or.inl rfl)))) (hb hbytes d14) hl)⟩
end LChA
end StrChars
namespace StrChars.Road
open Jvm Sem ClassFile Op Lib Jvm.Stand Jvm.Free Jvm.Free.XT
open Jvm.Lib.Cold (StaticIs)
theorem consq {a : Array Value} {s : State} {c : Jvm.Cond} {L : List Jvm.Cond} (h0 : c.before a s = true) (h : ∀ w ∈ L, w.before a s = true) : ∀ w ∈ c :: L, w.before a s = true := fun w hw => (List.mem_cons.mp hw).elim (fun e => e ▸ h0) (h w)
/-- the words of String.length(), either coding -/
abbrev wordsLen : List Jvm.Cond := [.code Len.yN Len.yB 1 (some .int), .initialized ST, .fieldLink ST 9 ST "value" "[B", .fieldLink ST 38 ST "COMPACT_STRINGS" "Z", .fieldLink ST 15 ST "coder" "B", .code Cdr.yN Cdr.yB 1 (some .byte), .methodLink ST 335 Cdr.yN, .declares Cdr.yN, .selects ST Cdr.yN Cdr.yN, .instanceMethod Cdr.yN]
theorem tabLen_of {a : Array Value} {s : State} (h : ∀ w ∈ wordsLen, w.before a s = true) : Len.tab.before a s = true := by
  have hc : Cdr.tab.before a s = true := unparts (wk h (.code Cdr.yN Cdr.yB 1 (some .byte))) (wks h (.initialized Cdr.yN.cls :: Cdr.site))
  have q := consq hc h
  exact unparts (wk q (.code Len.yN Len.yB 1 (some .int))) (wks q (.initialized Len.yN.cls :: Len.site))
theorem movedLen {Z s : State} {a0 args : Array Value} (hZ : Z.Warmed39 s.vm) (hw : ∀ d ∈ wordsLen, d.before a0 Z = true) : ∀ d ∈ wordsLen, d.before args s = true := fun d hd => by
  have q := hw d hd
  have t : ∀ d ∈ wordsLen, d = .arrayClass .byte ∨ (d.onTables && d.keepsFace) = true := by decide +kernel
  rcases t d hd with rfl | t
  · exact RoadKit.mvA hZ q
  · exact RoadKit.mv hZ q t
/-- the bytes of the chars cs, low before high -/
def wideBytes : List Int32 → List Value
  | [] => []
  | c :: cs => .int (lo8 c) :: .int (hi8 c) :: wideBytes cs
theorem wide_lo (d : Value) : ∀ (cs : List Int32) (j : Nat), j < cs.length → (wideBytes cs).getD (2 * j) d = .int (lo8 (cs.getD j 0))
  | [], j, h => absurd h (Nat.not_lt_zero j)
  | c :: cs, 0, _ => rfl
  | c :: cs, j + 1, h => by
    have q := wide_lo d cs j (by simpa using h)
    rw [show 2 * (j + 1) = 2 * j + 1 + 1 from by omega]
    simpa [wideBytes] using q
theorem wide_hi (d : Value) : ∀ (cs : List Int32) (j : Nat), j < cs.length → (wideBytes cs).getD (2 * j + 1) d = .int (hi8 (cs.getD j 0))
  | [], j, h => absurd h (Nat.not_lt_zero j)
  | c :: cs, 0, _ => rfl
  | c :: cs, j + 1, h => by
    have q := wide_hi d cs j (by simpa using h)
    rw [show 2 * (j + 1) + 1 = 2 * j + 1 + 1 + 1 from by omega]
    simpa [wideBytes] using q
theorem low_at (d : Value) (cs : List Int32) (j : Nat) (h : j < cs.length) : (cs.map fun c => Value.int (lo8 c)).getD j d = .int (lo8 (cs.getD j 0)) := by
  simp [List.getD_eq_getElem?_getD, h]
/-- an array of N2 bytes vs codes the chars cs by the coder cd -/
def CodA (cs : List Int32) (cd N2 : Int32) (vs : List Value) : Prop := (cd = 0 ∧ N2 = Int32.ofNat cs.length ∧ vs = (cs.map fun c => Value.int (lo8 c)) ∧ ∀ c ∈ cs, ¬ 255 < c) ∨ (cd = 1 ∧ N2 = Int32.ofNat (2 * cs.length) ∧ vs = wideBytes cs ∧ ∃ c ∈ cs, 255 < c)
theorem CodA.cod {cs : List Int32} {cd N2 : Int32} {vs : List Value} {V : Cell} (h : CodA cs cd N2 vs) (hn : 2 * cs.length < 2 ^ 31) (hs : V.slots.size = N2.toNatClampNeg) (hv : RoadKit.Has V vs (.int 0)) : Cod cd cs.length (fun j => cs.getD j 0) V := by
  rcases h with ⟨rfl, rfl, rfl, h⟩ | ⟨rfl, rfl, rfl, c, hc, hw⟩
  · rw [n32 (by omega)] at hs
    exact Or.inl ⟨rfl, hs, fun j hj => ⟨by rw [hv j (by omega), low_at _ _ _ hj], by
      have e : cs.getD j 0 = cs[j] := by simp [List.getD_eq_getElem?_getD, hj]
      show ¬ 255 < cs.getD j 0
      rw [e]; exact h _ (List.getElem_mem _)⟩⟩
  · rw [n32 (by omega)] at hs
    obtain ⟨j, hj, rfl⟩ := List.getElem_of_mem hc
    exact Or.inr ⟨rfl, hs, fun j hj => ⟨by rw [hv _ (by omega), wide_lo _ _ _ hj], by rw [hv _ (by omega), wide_hi _ _ _ hj]⟩, j, hj, by
      have e : cs.getD j 0 = cs[j] := by simp [List.getD_eq_getElem?_getD, hj]
      show 255 < cs.getD j 0
      rw [e]; exact hw⟩
/-- an object of exactly java/lang/String, its two fields found: as the laws ask it -/
theorem strObj {Z U : State} {a0 : Array Value} {kI : Nat} (wi : (Jvm.Cond.instantiable ST kI).before a0 Z = true) (al : Z.vm.Alike U.vm) {x : Addr} {v0 c0 : Value} (E : RoadKit.Exa Z U.heap x ST) (V : RoadKit.Fld Z U.heap x ST "value" "[B" v0) (C : RoadKit.Fld Z U.heap x ST "coder" "B" c0) :
    ∃ (D : Cell) (fV fC : Field), Blank ST x D U ∧ Found ST "value" "[B" fV U ∧ Found ST "coder" "B" fC U ∧ D.slots[fV.slot]? = some v0 ∧ D.slots[fC.slot]? = some c0 ∧ RoadKit.slotOf Z ST "value" "[B" = fV.slot ∧ RoadKit.slotOf Z ST "coder" "B" = fC.slot := by
  obtain ⟨D, cfV, kV, iV, fV, hD, gV, stV, knV, obV, asV, slV⟩ := V
  obtain ⟨D', cfC, kC, iC, fC, hD', gC, stC, -, -, asC, slC⟩ := C
  cases hD.symm.trans hD'
  obtain ⟨D2, kD, e1, e2, e3, e4, e5⟩ := E
  cases hD.symm.trans e1
  obtain ⟨c2, k2, i1, i2, i3, -⟩ := Cond.instantiable_spec wi
  cases e2.symm.trans i1
  cases e3.symm.trans i2
  obtain ⟨kU, u1, u2⟩ := al.2.2 _ _ e3
  exact ⟨D, fV, fC, ⟨hD, ⟨knV, fun q hq => by rw [hq] at obV; cases obV⟩, by rw [al.findClass]; exact e2, kU, u1, by rw [u2]; exact i3, by rw [u2]; exact e5 i3⟩, ⟨SBG.found_only al ⟨cfV, kV, iV, gV⟩, stV⟩, ⟨SBG.found_only al ⟨cfC, kC, iC, gC⟩, stC⟩, slV, slC, by simp [RoadKit.slotOf, gV], by simp [RoadKit.slotOf, gC]⟩
theorem sta_is {Z U : State} (al : Z.vm.Alike U.vm) {C n d : String} {v : Value} (S : RoadKit.Sta Z U.heap C n d v) : StaticIs U C n d v := by
  obtain ⟨cfS, iS, kS, fS, st, cS, t1, t2, t3, t4, t5, t6, t7⟩ := S
  exact StaticIs.there (s := { Z with heap := U.heap }) ⟨cfS, iS, kS, fS, st, cS, t1, t2, t3, t4, t5, (fun q => by rw [q] at t6; cases t6), t7⟩ al rfl
/-- **length() OF SUCH A STRING** -/
theorem lenW {p : Program} {l : Launch} {e : Env} {R : Room} {s : State} {args : Array Value} {below : List Frame} {len W : Nat} {Z : State} {a0 : Array Value} {h : Heap} (hZ : Z.Warmed39 s.vm) (hw : ∀ d ∈ wordsLen, d.before a0 Z = true) {kI : Nat} (wi : (Jvm.Cond.instantiable ST kI).before a0 Z = true)
    {x t : Addr} {kb : ClassId} {cs : List Int32} {cd N2 z : Int32} {vs : List Value} (E : RoadKit.Exa Z h x ST) (V : RoadKit.Fld Z h x ST "value" "[B" (.ref t)) (C : RoadKit.Fld Z h x ST "coder" "B" (.int cd)) (K : RoadKit.Arv Z h t kb .byte N2 vs (.int 0)) (hc : CodA cs cd N2 vs) (hb : ∀ c ∈ cs, ¬ c < 0 ∧ ¬ (65535 : Int32) < c)
    (S : RoadKit.Sta Z h ST "COMPACT_STRINGS" "Z" (.int z)) (hz : ¬ z = 0) (l2 : cs.length ≤ 4000) (hfr : 2 ≤ R.frames) (hlo : W + 25 ≤ R.locals) :
    Back l R p e below s args (⟨"java/lang/String", "length", "()I"⟩ : MethodName) len W (fun P a => a = #[.ref x] ∧ P.U.heap = h ∧ P.cells + 0 ≤ R.cells ∧ P.slots + 0 ≤ R.slots)
      (fun P _ v B => ∃ L, (v = some (.int (Int32.ofNat cs.length)) ∧ L = [] ∧ B.U.heap = h) ∧ B.locs = P.locs ++ L ∧ B.cells = P.cells + 0 ∧ B.slots = P.slots + 0) := by
  obtain ⟨A, K1, K2, K3, K4, K5, K6⟩ := K
  have hcod := hc.cod (by omega) K3 K5
  intro m meth c P g ig mk a X hg hsize hdg hW hn hp'
  obtain ⟨rfl, rfl, r1, r2⟩ := hp'
  have al : Z.vm.Alike P.U.vm := hZ.alike.trans X.warmed.alike
  obtain ⟨D, fV, fC, hB, F1, F2, g1, g2, -, -⟩ := strObj wi al E V C
  have hx : Txt x t A cd cs.length (fun j => cs.getD j 0) P.U := ⟨⟨_, hB.2.2.1, D, hB.1, rfl, by cases q : D.vm <;> first | rfl | exact absurd q (hB.2.1.2 _)⟩, Has.of hB F1 g1, Has.of hB F2 g2, ⟨K1.1, State.isArrayOf_alike al K1.2.1, K1.2.2, by rcases hcod with ⟨-, q, -⟩ | ⟨-, q, -⟩ <;> omega⟩, hcod, fun j hj => by
    have e : cs.getD j 0 = cs[j] := by simp [List.getD_eq_getElem?_getD, hj]
    show ¬ cs.getD j 0 < 0 ∧ ¬ 65535 < cs.getD j 0
    rw [e]; exact hb _ (List.getElem_mem _)⟩
  obtain ⟨v, B, X', ⟨⟨hv, hh⟩, hl, hk, hs⟩, st⟩ := Len.pays x t A cd cs.length (fun j => cs.getD j 0) z (tabLen_of (movedLen hZ hw)) hfr hlo m meth c P g ig mk _ X hg hsize hdg hW hn ⟨r1, r2, rfl, hx, sta_is al S, hz⟩
  exact ⟨v, B, X', ⟨[], ⟨hv, rfl, hh⟩, hl, hk, hs⟩, st⟩
end StrChars.Road
namespace StrChars.Road
open Jvm Sem ClassFile Op Lib Jvm.Stand Jvm.Free Jvm.Free.XT
open Jvm.Lib.Cold (StaticIs)
/-- the road's facts of a String, as the laws ask it -/
theorem txt_of {Z U : State} {a0 : Array Value} {kI : Nat} (wi : (Jvm.Cond.instantiable ST kI).before a0 Z = true) (al : Z.vm.Alike U.vm) {x t : Addr} {kb : ClassId} {cs : List Int32} {cd N2 : Int32} {vs : List Value} (E : RoadKit.Exa Z U.heap x ST) (V : RoadKit.Fld Z U.heap x ST "value" "[B" (.ref t)) (C : RoadKit.Fld Z U.heap x ST "coder" "B" (.int cd)) (K : RoadKit.Arv Z U.heap t kb .byte N2 vs (.int 0)) (hc : CodA cs cd N2 vs) (hb : ∀ c ∈ cs, ¬ c < 0 ∧ ¬ (65535 : Int32) < c) (l2 : cs.length ≤ 4000) :
    ∃ A, Txt x t A cd cs.length (fun j => cs.getD j 0) U := by
  obtain ⟨A, K1, K2, K3, K4, K5, K6⟩ := K
  have hcod := hc.cod (by omega) K3 K5
  obtain ⟨D, fV, fC, hB, F1, F2, g1, g2, -, -⟩ := strObj wi al E V C
  exact ⟨A, ⟨_, hB.2.2.1, D, hB.1, rfl, by cases q : D.vm <;> first | rfl | exact absurd q (hB.2.1.2 _)⟩, Has.of hB F1 g1, Has.of hB F2 g2, ⟨K1.1, State.isArrayOf_alike al K1.2.1, K1.2.2, by rcases hcod with ⟨-, q, -⟩ | ⟨-, q, -⟩ <;> omega⟩, hcod, fun j hj => by
    have e : cs.getD j 0 = cs[j] := by simp [List.getD_eq_getElem?_getD, hj]
    show ¬ cs.getD j 0 < 0 ∧ ¬ 65535 < cs.getD j 0
    rw [e]; exact hb _ (List.getElem_mem _)⟩
end StrChars.Road
namespace StrChars
open Jvm Sem ClassFile Op Lib Jvm.Stand Jvm.Free.XT Jvm.Free.ALB Jvm.Free.JM Jvm.Free
open Jvm.Lib.Cold (StaticIs)
namespace ChN
def yN : MethodName := ⟨"java/lang/String", "charAt", "(I)C"⟩
abbrev yB : ByteArray := jdk_42_method_56_code
theorem d0 : decode yB 0 = .ok (.aload_n 0, 1) := by decide +kernel
theorem d1 : decode yB 1 = .ok (.invokevirtual 492, 3) := by decide +kernel
theorem d4 : decode yB 4 = .ok (.ifCond (.eq) 12, 3) := by decide +kernel
theorem d7 : decode yB 7 = .ok (.aload_n 0, 1) := by decide +kernel
theorem d8 : decode yB 8 = .ok (.getfield 9, 3) := by decide +kernel
theorem d11 : decode yB 11 = .ok (.iload_n 1, 1) := by decide +kernel
theorem d12 : decode yB 12 = .ok (.invokestatic 495, 3) := by decide +kernel
theorem d15 : decode yB 15 = .ok (.ireturn, 1) := by decide +kernel
def site : List Cond := [.fieldLink "java/lang/String" 9 "java/lang/String" "value" "[B", IsL.tab, LChA.tab] ++ virtW "java/lang/String" 492 "java/lang/String" IsL.yN IsL.yN ++ staticW "java/lang/String" 495 LChA.yN
def tab : Cond := tabOf yN yB 2 (some .char) site
def P (x t : Addr) (V : Cell) (n : Nat) (f : Nat → Int32) (z : Int32) (fm : Value) (i : Nat) (args : Array Value) (s : State) : Prop := args = #[.ref x, .int (Int32.ofNat i)] ∧ Txt x t V 0 n f s ∧ i < n ∧ StaticIs s "java/lang/String" "COMPACT_STRINGS" "Z" (.int z) ∧ ¬ z = 0 ∧ StaticIs s "jdk/internal/util/Preconditions" "SIOOBE_FORMATTER" "Ljava/util/function/BiFunction;" fm ∧ fm.isRef = true
def E (f : Nat → Int32) (i : Nat) (r : Option Value) (s u : State) : Prop := XT.PureE (some (.int (f i))) r s u
/-- charAt(i) of a Latin-1 String of n chars, i < n: f i -/
theorem law (l : Launch) (x t : Addr) (V : Cell) (n : Nat) (f : Nat → Int32) (z : Int32) (fm : Value) (i : Nat) : Law l yN 2 1 3 40 yB 2 (some .char) site (P x t V n f z fm i) (E f i) [] 0 0 := by
  refine Law.of_walk (plainFor_of_name (by decide +kernel)) (by decide +kernel) (by decide +kernel) (by decide) (fun _ _ h => by rw [h.1]; rfl) (fun _ U U' hal hh h => ⟨h.1, h.2.1.mv hal hh, h.2.2.1, h.2.2.2.1.there hal hh, h.2.2.2.2.1, h.2.2.2.2.2.1.there hal hh, h.2.2.2.2.2.2⟩) (fun r U U' V V' h1 hal h2 h => XT.PureE.mv r U U' V V' h1 hal h2 h) ?_
  intro p e s m args below meth c s₁ X0 hexec hbytes hml hret hlk hnm hown hh0 W hP
  obtain ⟨rfl, hx, hi, s1, hz, s3, rf⟩ := hP
  have v31 := hx.2.2.2.1.2.2.2
  have hr := hx.2.2.2.2.2 i hi
  have hx0 := hx.mv X0.warmed.alike hh0
  have c1 : Steps p.tables e below (s₁.setTop (entryFrame m #[.ref x, .int (Int32.ofNat i)] 2)) (s₁.setTop (mkF m 1 #[.val (.ref x), .val (.int (Int32.ofNat i))] [.ref x])) := Steps.trans (entry rfl) (by
    show Steps p.tables e below (s₁.setTop (mkF m 0 #[.val (.ref x), .val (.int (Int32.ofNat i))] [])) _
    refine XS.aloadN X0.here hexec rfl (hb hbytes d0) rfl rfl ?_
    exact Steps.refl _)
  obtain ⟨v2, T2, X2, E2, g2⟩ := X0.callV hexec (IsL.law l x 0 z) hown (wks W (virtW "java/lang/String" 492 "java/lang/String" IsL.yN IsL.yN)) rfl (by decide) (wk W IsL.tab) (W := 0) (Nat.le_of_ble_eq_true rfl) (Nat.le_of_ble_eq_true rfl) (Nat.le_refl _) (Nat.le_refl _) (hx0.1.fc X0.warmed.alike) hx0.1.is (g := (mkF m 1 #[.val (.ref x), .val (.int (Int32.ofNat i))] [.ref x])) rfl (by rw [hml]; rfl) c1 (argsL := []) (rest := []) rfl rfl (by show 2 * 0 + 0 ≤ _; decide) (hb hbytes d1) (⟨rfl, hx0.2.2.1, hx.2.2.2.2.1.cd, s1.there X0.warmed.alike hh0, hz⟩)
  obtain ⟨rfl, q2⟩ := E2
  have hh2 := q2.trans hh0
  have hx2 := hx.mv X2.warmed.alike hh2
  obtain ⟨-, k1, k2⟩ | ⟨k0, -⟩ := hx.2.2.2.2.1
  · have c3 : Steps p.tables e below (s₁.setTop (entryFrame m #[.ref x, .int (Int32.ofNat i)] 2)) (T2.setTop (mkF m 8 #[.val (.ref x), .val (.int (Int32.ofNat i))] [.ref x])) := Steps.trans g2 (by
      refine XS.ifNo X2.here hexec rfl (hb hbytes d4) rfl (i0_eq_f (by decide)) ?_
      refine XS.aloadN X2.here hexec rfl (hb hbytes d7) rfl rfl ?_
      exact Steps.refl _)
    obtain ⟨T4, X4, q4, st4⟩ := X2.hget hexec hown (wk W (.fieldLink "java/lang/String" 9 "java/lang/String" "value" "[B")) hx2.2.1 (g := (mkF m 8 #[.val (.ref x), .val (.int (Int32.ofNat i))] [.ref x])) rfl (rest := []) rfl (hb hbytes d8)
    have hh4 := q4.trans hh2
    have c5 : Steps p.tables e below (s₁.setTop (entryFrame m #[.ref x, .int (Int32.ofNat i)] 2)) (T4.setTop (mkF m 12 #[.val (.ref x), .val (.int (Int32.ofNat i))] [.int (Int32.ofNat i), .ref t])) := (c3.trans (st4 _ (Steps.refl _))).trans (by
      refine XS.iloadN X4.here hexec rfl (hb hbytes d11) rfl ?_
      exact Steps.refl _)
    obtain ⟨v6, T6, X6, E6, g6⟩ := X4.callS hexec (LChA.law l t V i (lo8 (f i)) fm) hown (wks W (staticW "java/lang/String" 495 LChA.yN)) (wk W LChA.tab) (W := 0) (Nat.le_of_ble_eq_true rfl) (Nat.le_of_ble_eq_true rfl) (Nat.le_refl _) (Nat.le_refl _) (g := (mkF m 12 #[.val (.ref x), .val (.int (Int32.ofNat i))] [.int (Int32.ofNat i), .ref t])) rfl (by rw [hml]; rfl) c5 (argsL := [.ref t, .int (Int32.ofNat i)]) (rest := []) rfl rfl (by show 2 * 0 + 0 ≤ _; decide) (hb hbytes d12) (⟨rfl, hx.2.2.2.1.mv X4.warmed.alike hh4, (k2 i hi).1, s3.there X4.warmed.alike hh4, rf⟩)
    obtain ⟨rfl, q6⟩ := E6
    rw [chr8_lo8 hr.1 (k2 i hi).2] at g6
    exact ⟨T6, some (.int (f i)), _, _, _, X6, rfl, rfl, rfl, (fun h => by cases h), ⟨rfl, q6.trans hh4⟩, fun fs hl => Steps.trans g6 (X6.ireturnOut hexec hret (narrow_ch hr.1 hr.2) (Or.inr (Or.inr (Or.inr (Or.inl rfl)))) (hb hbytes d15) hl)⟩
  · exact absurd k0 (by decide)
theorem pays {l : Launch} {R : Room} {p : Program} {e : Env} {below : List Frame} {s : State} {sargs : Array Value} {len W : Nat} (x t : Addr) (V : Cell) (n : Nat) (f : Nat → Int32) (z : Int32) (fm : Value) (i : Nat) (htab : tab.before sargs s = true) (hfr : 4 ≤ R.frames) (hlo : W + 53 ≤ R.locals) :
    Back l R p e below s sargs yN len W (fun A₁ a₁ => A₁.cells + 0 ≤ R.cells ∧ A₁.slots + 0 ≤ R.slots ∧ P x t V n f z fm i a₁ A₁.U) (fun A₁ _ v₁ B₁ => E f i v₁ A₁.U B₁.U ∧ B₁.locs = A₁.locs ++ [] ∧ B₁.cells = A₁.cells + 0 ∧ B₁.slots = A₁.slots + 0) :=
  (law l x t V n f z fm i).pays htab hfr (by omega)
end ChN
end StrChars
namespace StrChars.Road
open Jvm Sem ClassFile Op Lib Jvm.Stand Jvm.Free Jvm.Free.XT
open Jvm.Lib.Cold (StaticIs)
/-- the words of String.charAt(int), the Latin-1 road alone -/
abbrev wordsChN : List Jvm.Cond := [.code ChN.yN ChN.yB 2 (some .char), .initialized ST, .fieldLink ST 9 ST "value" "[B", .fieldLink ST 38 ST "COMPACT_STRINGS" "Z", .fieldLink ST 15 ST "coder" "B", .code IsL.yN IsL.yB 1 (some .boolean), .methodLink ST 492 IsL.yN, .declares IsL.yN, .selects ST IsL.yN IsL.yN, .instanceMethod IsL.yN,
  .methodLink ST 495 LChA.yN, .static LChA.yN, .code LChA.yN LChA.yB 2 (some .char), .initialized "java/lang/StringLatin1", .methodLink "java/lang/StringLatin1" 9 JO.Str_checkIndex.yN, .static JO.Str_checkIndex.yN, .code JO.Str_checkIndex.yN JO.Str_checkIndex.yB 2 none,
  .fieldLink ST 1053 "jdk/internal/util/Preconditions" "SIOOBE_FORMATTER" "Ljava/util/function/BiFunction;", .methodLink ST 1059 JC.PreCheck.yN, .static JC.PreCheck.yN, .code JC.PreCheck.yN JC.PreCheck.yB 3 (some .int), .initialized "jdk/internal/util/Preconditions"]
theorem tabChN_of {a : Array Value} {s : State} (h : ∀ w ∈ wordsChN, w.before a s = true) : ChN.tab.before a s = true := by
  have hp : JC.PreCheck.tab.before a s = true := unparts (wk h (.code JC.PreCheck.yN JC.PreCheck.yB 3 (some .int))) (wks h (.initialized JC.PreCheck.yN.cls :: JC.PreCheck.site))
  have qk := consq hp h
  have hk : JO.Str_checkIndex.tab.before a s = true := unparts (wk qk (.code JO.Str_checkIndex.yN JO.Str_checkIndex.yB 2 none)) (wks qk (.initialized JO.Str_checkIndex.yN.cls :: JO.Str_checkIndex.site))
  have ql := consq hk h
  have hl : LChA.tab.before a s = true := unparts (wk ql (.code LChA.yN LChA.yB 2 (some .char))) (wks ql (.initialized LChA.yN.cls :: LChA.site))
  have hi : IsL.tab.before a s = true := unparts (wk h (.code IsL.yN IsL.yB 1 (some .boolean))) (wks h (.initialized IsL.yN.cls :: IsL.site))
  have q := consq hi (consq hl h)
  exact unparts (wk q (.code ChN.yN ChN.yB 2 (some .char))) (wks q (.initialized ChN.yN.cls :: ChN.site))
theorem movedChN {Z s : State} {a0 args : Array Value} (hZ : Z.Warmed39 s.vm) (hw : ∀ d ∈ wordsChN, d.before a0 Z = true) : ∀ d ∈ wordsChN, d.before args s = true := fun d hd => by
  have t : ∀ d ∈ wordsChN, (d.onTables && d.keepsFace) = true := by decide +kernel
  exact RoadKit.mv hZ (hw d hd) (t d hd)
/-- **charAt(i) OF A LATIN-1 STRING**, i < n: the char -/
theorem chN {p : Program} {l : Launch} {e : Env} {R : Room} {s : State} {args : Array Value} {below : List Frame} {len W : Nat} {Z : State} {a0 : Array Value} {h : Heap} (hZ : Z.Warmed39 s.vm) (hw : ∀ d ∈ wordsChN, d.before a0 Z = true) {kI : Nat} (wi : (Jvm.Cond.instantiable ST kI).before a0 Z = true)
    {x t : Addr} {kb : ClassId} {cs : List Int32} {N2 z : Int32} {vs : List Value} {fm : Value} {i : Nat} {j : Int32} (E : RoadKit.Exa Z h x ST) (V : RoadKit.Fld Z h x ST "value" "[B" (.ref t)) (C : RoadKit.Fld Z h x ST "coder" "B" (.int 0)) (K : RoadKit.Arv Z h t kb .byte N2 vs (.int 0)) (hc : CodA cs 0 N2 vs) (hb : ∀ c ∈ cs, ¬ c < 0 ∧ ¬ (65535 : Int32) < c)
    (S : RoadKit.Sta Z h ST "COMPACT_STRINGS" "Z" (.int z)) (hz : ¬ z = 0) (F : RoadKit.Sta Z h "jdk/internal/util/Preconditions" "SIOOBE_FORMATTER" "Ljava/util/function/BiFunction;" fm) (rf : fm.isRef = true) (l2 : cs.length ≤ 4000) (hi : i < cs.length) (hj : j = Int32.ofNat i) (hfr : 4 ≤ R.frames) (hlo : W + 53 ≤ R.locals) :
    Back l R p e below s args (⟨"java/lang/String", "charAt", "(I)C"⟩ : MethodName) len W (fun P a => a = #[.ref x, .int j] ∧ P.U.heap = h ∧ P.cells + 0 ≤ R.cells ∧ P.slots + 0 ≤ R.slots)
      (fun P _ v B => ∃ L, (v = some (.int (cs.getD i 0)) ∧ L = [] ∧ B.U.heap = h) ∧ B.locs = P.locs ++ L ∧ B.cells = P.cells + 0 ∧ B.slots = P.slots + 0) := by
  subst hj
  intro m meth c P g ig mk a X hg hsize hdg hW hn hp'
  obtain ⟨rfl, rfl, r1, r2⟩ := hp'
  have al : Z.vm.Alike P.U.vm := hZ.alike.trans X.warmed.alike
  obtain ⟨A, hx⟩ := txt_of wi al E V C K hc hb l2
  obtain ⟨v, B, X', ⟨⟨hv, hh⟩, hl, hk, hs⟩, st⟩ := ChN.pays x t A cs.length (fun j => cs.getD j 0) z fm i (tabChN_of (movedChN hZ hw)) hfr hlo m meth c P g ig mk _ X hg hsize hdg hW hn ⟨r1, r2, rfl, hx, hi, sta_is al S, hz, sta_is al F, rf⟩
  exact ⟨v, B, X', ⟨[], ⟨hv, rfl, hh⟩, hl, hk, hs⟩, st⟩
/-- what backV says of its String, as the contracts of this text ask it: cs's low bytes, coder 0 -/
theorem codOf {cs : List Int32} {n : Nat} (hn : cs.length = n) (hb : ∀ c ∈ cs, ¬ 255 < c) : CodA cs 0 (Int32.ofNat n) ((cs.map lo8).map Value.int) := Or.inl ⟨rfl, by rw [hn], by simp [List.map_map, Function.comp_def], hb⟩
end StrChars.Road
end Jvm.Pilot.@@N@@
namespace Jvm.Pilot.@@N@@
open Jvm Jvm.ClassFile Sem Op Lib Jvm.Free Jvm.Stand Jvm.LawKit Jvm.RoadKit Bundle Jvm.Pilot.@@N@@.Jvm.D
set_option maxRecDepth 65536
set_option maxHeartbeats 40000000
section OwnKit
variable {p : Program} {l : Launch} {e : Env} {R : Room} {s : State} {m : MethodId} {args : Array Value} {below : List Frame} {meth : Method} {c : Code} {T T' U Z : State} {locs : List Loc} {cells slots : Nat} {h h' h0 : Heap} {a b : Addr} {n0 : Nat}
abbrev HW (Z : State) (a0 : Array Value) : Prop := ∀ d ∈ tables_1, d.before a0 Z = true
abbrev vI (x : Int32) : Slot := .val (.int x)
abbrev vJ (x : Int64) : Slot := .val (.long x)
abbrev vR (x : Addr) : Slot := .val (.ref x)
abbrev vN : Slot := .val .null
abbrev vU : Slot := .unset
abbrev vS : Slot := .second
theorem lb {a b : Nat} (q : Nat.ble a b = true) : a ≤ b := Nat.le_of_ble_eq_true q
/-- from T with the frame f on top the invocation comes to its end, and P holds there -/
def own_Fin (tb : Tables) (e : Env) (below : List Frame) (P : State → Outcome → Prop) (T : State) (f : JFrame) : Prop := ∃ s₂ o, Steps tb e below (T.setTop f) s₂ ∧ s₂.status = .running ∧ Ended s₂ below o ∧ P s₂ o
theorem own_go {tb : Tables} {P : State → Outcome → Prop} {g g' : JFrame} (k : ∀ t, Steps tb e below (T'.setTop g') t → Steps tb e below (T.setTop g) t) (q : own_Fin tb e below P T' g') : own_Fin tb e below P T g := by
  obtain ⟨s₂, o, a, r⟩ := q; exact ⟨s₂, o, k _ a, r⟩
theorem own_to {tb : Tables} {P : State → Outcome → Prop} {g g' : JFrame} (k : Steps tb e below (T.setTop g) (T'.setTop g')) (q : own_Fin tb e below P T' g') : own_Fin tb e below P T g := by
  obtain ⟨s₂, o, a, r⟩ := q; exact ⟨s₂, o, k.trans a, r⟩
theorem og {tb : Tables} {P : State → Outcome → Prop} {g : JFrame} (T' : State) (g' : JFrame) (k : ∀ t, Steps tb e below (T'.setTop g') t → Steps tb e below (T.setTop g) t) (q : own_Fin tb e below P T' g') : own_Fin tb e below P T g := own_go k q
theorem ot {tb : Tables} {P : State → Outcome → Prop} {g : JFrame} (T' : State) (g' : JFrame) (k : Steps tb e below (T.setTop g) (T'.setTop g')) (q : own_Fin tb e below P T' g') : own_Fin tb e below P T g := own_to k q
def own_PN (s : State) (Q : Option Value → Heap → List Loc → Prop) (rc rs : Nat) : State → Outcome → Prop := fun U o => ∃ v L, o = .returned v ∧ Q v U.heap L ∧ FrameEnd s o U L rc rs
/-- a body's contract: from the heap h0 it returns, and Q says what -/
def own_CN (l : Launch) (Z : State) (y : MethodName) (bytes : ByteArray) (maxL : Nat) (ret : Option FieldType) (ws : List Jvm.Cond) (rm : Room) (as : Array Value) (h0 : Heap) (Q : Option Value → Heap → List Loc → Prop) : Prop :=
  MetFree l y (head1 (Jvm.Cond.code y bytes maxL ret :: ws) rm) (fun a U => a = as ∧ Z.Warmed39 U.vm ∧ U.heap = h0) (fun _ _ _ _ _ => True) (fun _ U o U' => ∃ v L, o = .returned v ∧ Q v U'.heap L ∧ FrameEnd U o U' L rm.cells rm.slots)
theorem own_entryN {y : MethodName} {bytes : ByteArray} {maxL : Nat} {ret : Option FieldType} {ws : List Jvm.Cond} {rm : Room} {as : Array Value} {Q : Option Value → Heap → List Loc → Prop} (hpn : plainFor y = true)
    (body : ∀ (p : Program) (e : Env) (s : State) (m : MethodId) (below : List Frame) (meth : Method) (c : Code) (s₁ : State), p.tables.exec = Jvm.exec → c.code = bytes → c.maxLocals = maxL → s.vm.findClass y.cls = some m.cls → meth.name = y.name → meth.sig.returnType = ret → meth.locks = false → Z.Warmed39 s.vm → s.heap = h0 →
      Stand p l e rm s m as below meth c s₁ [] 0 0 → s₁.heap = h0 → own_Fin p.tables e below (own_PN s Q rm.cells rm.slots) s₁ (entryFrame m as maxL)) : own_CN l Z y bytes maxL ret ws rm as h0 Q := by
  refine MetFree.of_bodySF hpn hisR ?_
  intro p e s m args below meth c s₁ Bd hml0 hP hK
  obtain ⟨rfl, hZ, hh⟩ := hP
  exact body p e s m below meth c s₁ Bd.exec Bd.bytes hml0 (findClass_of_methodNamed Bd.named) (name_of_methodNamed Bd.named Bd.method).1 Bd.returns Bd.notSynchronized hZ hh (Stand.of_body Bd) (by rw [← hh, Bd.state]; rfl)
theorem own_leaveN (X : Stand p l e R s m args below meth c T locs cells slots) (hlk : meth.locks = false) {Q : Option Value → Heap → List Loc → Prop} {v : Option Value} (hv : meth.sig.returnType = none → v = none) {rc rs : Nat} (hc : cells ≤ rc) (hs : slots ≤ rs) (hQ : Q v T.heap locs) {f : JFrame}
    (st : ∀ fs, (∀ (f : JFrame) (acts : List Action), f.method = m → f.locked = none → f.entered = [] → (doReturn e (T.setTop f) acts v).1 = T.setFrames fs) → Steps p.tables e below (T.setTop f) (T.setFrames fs)) : own_Fin p.tables e below (own_PN s Q rc rs) T f := by
  obtain ⟨fs, hr, hrun, hended, hW, hsame⟩ := X.leave hv hlk
  exact ⟨_, _, st fs hr, hrun, hended, _, _, rfl, hQ, ⟨_, rfl⟩, hW, hsame.mono hc hs⟩
theorem own_w {a0 : Array Value} (hw : ∀ d ∈ tables_1, d.before a0 Z = true) (i : Nat) {d : Jvm.Cond} (q : tables_1[i]? = some d := by rfl) : d.before a0 Z = true := hw d (List.mem_of_getElem? q)
theorem own_osz (O : Old Z n0 h) : n0 ≤ h.size := O.1 ▸ O.2.1
theorem own_ne_old (q : a < Z.heap.size) (O : Old Z n0 h) (r : n0 ≤ b) : a ≠ b := O.ne q r
theorem own_ne_arv {a0 : Array Value} {C : String} {k : Nat} {kc : ClassId} {ty : FieldType} {z : Int32} {vs : List Value} {dv : Value} (F : Exa Z h a C) (wi : (Jvm.Cond.instantiable C k).before a0 Z = true) (G : Arv Z h b kc ty z vs dv) : a ≠ b := by
  obtain ⟨_, A, -⟩ := G; exact ne_arr F wi A
theorem own_cat {v : Value} (q : v.isRef = true) : v.category = 1 := by rcases ref_cases q with rfl | ⟨_, rfl⟩ <;> rfl
/-- the same place of the walk, the state another (no cell written or made meanwhile) -/
def own_at (_ : Stand p l e R s m args below meth c T locs cells slots) (T' : State) : Prop := Stand p l e R s m args below meth c T' locs cells slots
theorem own_ne_lo (q : a < h.size) (r : h.size ≤ b) : a ≠ b := Nat.ne_of_lt (Nat.lt_of_lt_of_le q r)
end OwnKit
def own_EL : List (String × Nat) := [("java/lang/String", 7), ("java/lang/StringLatin1", 151)]
theorem own_EW {a0 : Array Value} {Z : State} (hw : ∀ d ∈ tables_1, d.before a0 Z = true) : EW Z a0 own_EL := (EW.cons (own_w hw 19) (by decide) (EW.cons (own_w hw 128) (by decide) EW.nil))
theorem own_wS {a0 : Array Value} {Z : State} (hw : ∀ d ∈ tables_1, d.before a0 Z = true) : ∀ d ∈ Bundle.stringAtoms, d.before a0 Z = true := fun d hd => hw d ((by decide +kernel : ∀ d ∈ Bundle.stringAtoms, d ∈ tables_1) d hd)
theorem own_wa {a0 : Array Value} {Z : State} (hw : ∀ d ∈ tables_1, d.before a0 Z = true) : (Jvm.Cond.arrayClass .byte).before a0 Z = true := (own_w hw 20)
theorem own_wi {a0 : Array Value} {Z : State} (hw : ∀ d ∈ tables_1, d.before a0 Z = true) : (Jvm.Cond.instantiable "java/lang/String" 4).before a0 Z = true := (own_w hw 7)
theorem own_held {tb : Tables} {e : Env} {args : Array Value} {s : State} (hc : Calls_1 tb e args s) : ∀ p ∈ own_EL, Jvm.Lit.constHeld s p.1 p.2 := fun p hp => hc.1 p hp
section OwnKitW
variable {p : Program} {l : Launch} {e : Env} {R : Room} {s : State} {m : MethodId} {args : Array Value} {below : List Frame} {meth : Method} {c : Code} {T T' U Z : State} {locs : List Loc} {cells slots : Nat} {h h' h0 : Heap} {a b : Addr} {n0 : Nat} {vm0 : Vm} {EL : List (String × Nat)} {a0 : Array Value}
def own_PW (s Z : State) (EL : List (String × Nat)) (Q : Option Value → Heap → List Loc → Prop) (rc rs : Nat) : State → Outcome → Prop := fun U o => ∃ v L, o = .returned v ∧ Q v U.heap L ∧ CHr Z EL s.vm s.heap U.vm U.heap ∧ ReturnedEndW s o U L rc rs
def own_CW (l : Launch) (Z : State) (y : MethodName) (bytes : ByteArray) (maxL : Nat) (ret : Option FieldType) (ws : List Jvm.Cond) (rm : Room) (as : Array Value) (h0 : Heap) (sx : List Addr) (Q : Option Value → Heap → List Loc → Prop) : Prop :=
  MetFree l y (head1 (Jvm.Cond.code y bytes maxL ret :: ws) rm) (fun a U => a = as ∧ Z.Warmed39 U.vm ∧ U.heap = h0 ∧ CHv Z own_EL U.vm h0 ∧ ∀ x ∈ sx, Safe Z own_EL U.vm h0 x) (fun _ _ _ _ _ => True) (fun _ U o U' => ∃ v L, o = .returned v ∧ Q v U'.heap L ∧ CHr Z own_EL U.vm U.heap U'.vm U'.heap ∧ ReturnedEndW U o U' L rm.cells rm.slots)
theorem own_entryW {y : MethodName} {bytes : ByteArray} {maxL : Nat} {ret : Option FieldType} {ws : List Jvm.Cond} {rm : Room} {as : Array Value} {sx : List Addr} {Q : Option Value → Heap → List Loc → Prop} (hpn : plainFor y = true)
    (body : ∀ (p : Program) (e : Env) (s : State) (m : MethodId) (below : List Frame) (meth : Method) (c : Code) (s₁ : State), p.tables.exec = Jvm.exec → c.code = bytes → c.maxLocals = maxL → s.vm.findClass y.cls = some m.cls → meth.name = y.name → meth.sig.returnType = ret → meth.locks = false → Z.Warmed39 s.vm → s.heap = h0 → CHv Z own_EL s.vm h0 → (∀ x ∈ sx, Safe Z own_EL s.vm h0 x) →
      Stand p l e rm (s.setVm s.vm) m as below meth c s₁ [] 0 0 → s₁.heap = h0 → own_Fin p.tables e below (own_PW s Z own_EL Q rm.cells rm.slots) s₁ (entryFrame m as maxL)) : own_CW l Z y bytes maxL ret ws rm as h0 sx Q := by
  refine MetFree.of_bodySF hpn hisR ?_
  intro p e s m args below meth c s₁ Bd hml0 hP hK
  obtain ⟨rfl, hZ, hh, hCH, hSf⟩ := hP
  exact body p e s m below meth c s₁ Bd.exec Bd.bytes hml0 (findClass_of_methodNamed Bd.named) (name_of_methodNamed Bd.named Bd.method).1 Bd.returns Bd.notSynchronized hZ hh hCH hSf (Stand.of_body Bd) (by rw [← hh, Bd.state]; rfl)
theorem own_leaveW (X : Stand p l e R (s.setVm vm0) m args below meth c T locs cells slots) {k0 : Nat} (hS : s.Since vm0 k0) (hk : k0 ≤ h.size) (hZ : Z.Warmed39 vm0) (hEL : EW Z a0 EL) (eT : T.heap = h) (hCH : CHr Z EL s.vm h0 vm0 h) (hh : s.heap = h0) (hlk : meth.locks = false) {Q : Option Value → Heap → List Loc → Prop} {v : Option Value} (hv : meth.sig.returnType = none → v = none) {rc rs : Nat} (hc : cells ≤ rc) (hs : slots ≤ rs) (hQ : Q v T.heap locs) {f : JFrame}
    (st : ∀ fs, (∀ (f : JFrame) (acts : List Action), f.method = m → f.locked = none → f.entered = [] → (doReturn e (T.setTop f) acts v).1 = T.setFrames fs) → Steps p.tables e below (T.setTop f) (T.setFrames fs)) : own_Fin p.tables e below (own_PW s Z EL Q rc rs) T f := by
  subst eT
  obtain ⟨fs, hr, hrun, hended, hv', hW, hI, hsame⟩ := X.leaveW hS hk hv hlk
  have q := CHr.trans hCH (CHv.at X hZ hEL hCH.1)
  exact ⟨_, _, st fs hr, hrun, hended, _, _, rfl, hQ, by rw [hh]; exact q, hv', hW, hI, hsame.mono hc hs⟩
theorem own_reb {vm1 : Vm} (X : Stand p l e R ((s.setVm vm0).setVm vm1) m args below meth c T locs cells slots) : Stand p l e R (s.setVm vm1) m args below meth c T locs cells slots := X
theorem own_since (s : State) (n : Nat) : s.Since s.vm n := (State.WarmedH.refl s).since n
theorem own_after (hZ : Z.Warmed39 vm0) {k0 : Nat} (hS : s.Since vm0 k0) (eT : T.heap = h) (hk : k0 ≤ h.size) (h2 : (s.setVm vm0).Since U.vm U.heap.size) (g : T.heap.size ≤ U.heap.size) {own : String} {k : ClassId} (hown : vm0.findClass own = some k) : Z.Warmed39 (s.setVm U.vm).vm ∧ s.Since U.vm U.heap.size ∧ (s.setVm U.vm).vm.findClass own = some k := by
  subst eT
  refine ⟨State.Warmed39.trans (t := s.setVm vm0) hZ h2.1, foldS hS hk h2 g, ?_⟩
  show U.vm.findClass own = some k
  rw [h2.1.alike.findClass]; exact hown
theorem own_backSH {y : MethodName} {bytes : ByteArray} {maxL : Nat} {ret : Option FieldType} {rm : Room} {len W : Nat} {as' : Array Value} {Q : Option Value → Heap → List Loc → Prop} {sx : List Addr}
    (hM : MetFree l y (head1 [Cond.code y bytes maxL ret] rm) (fun a U => a = as' ∧ Z.Warmed39 U.vm ∧ U.heap = h ∧ CHv Z EL U.vm h ∧ ∀ x ∈ sx, Safe Z EL U.vm h x) (fun _ _ _ _ _ => True) (fun _ U o U' => ∃ v L, o = .returned v ∧ Q v U'.heap L ∧ CHr Z EL U.vm U.heap U'.vm U'.heap ∧ ReturnedEndW U o U' L rm.cells rm.slots))
    (hZ : Z.Warmed39 vm0) (wc : (Cond.code y bytes maxL ret).before a0 Z = true) (wz : (Cond.initialized y.cls).before a0 Z = true) (hf : rm.frames + 1 ≤ R.frames) (hl : W + (maxL + 11) + rm.locals ≤ R.locals) (hEL : EW Z a0 EL) (H : CHv Z EL vm0 h) (hsx : ∀ x ∈ sx, x < h.size ∧ Safe Z EL vm0 h x) :
    BackS l R p e below (s.setVm vm0) args y len W (fun A a => a = as' ∧ A.U.heap = h ∧ A.cells + rm.cells ≤ R.cells ∧ A.slots + rm.slots ≤ R.slots)
      (fun A _ v B => ∃ L, Q v B.U.heap L ∧ B.locs = A.locs ++ L ∧ B.cells = A.cells + rm.cells ∧ B.slots = A.slots + rm.slots ∧ CHr Z EL vm0 h B.U.vm B.U.heap) :=
  BackS.of_freeW (bytes := bytes) (maxL := maxL) (ret := ret) (E := fun _ u o t L k n => (k = rm.cells ∧ n = rm.slots) ∧ (∃ v, o = .returned v ∧ Q v t.heap L) ∧ CHr Z EL u.vm u.heap t.vm t.heap) hM hf hl
    (fun m meth c A a Y hp => by
      have hU : Z.Warmed39 A.U.vm := wtrans (s := s.setVm vm0) hZ Y.warmed
      refine ⟨?_, mv hU wc, mv hU wz, hp.2.2.1, hp.2.2.2⟩
      show (Cond.and _ .tt).before a A.U = true
      rw [Cond.before_and, mv hU wc]; rfl)
    (fun m meth c A a g mk Y hp => ⟨hp.1, wtrans (s := s.setVm vm0) hZ Y.warmed, hp.2.1, (CHv.at Y hZ hEL H).1, fun x hx => CHr.safe (CHv.at Y hZ hEL H) (hsx x hx).1 (hsx x hx).2⟩) (fun _ _ _ _ _ _ _ _ _ => trivial)
    (fun _ _ _ _ ⟨v, L, q1, q2, q3, q4⟩ => ⟨L, _, _, q4, ⟨rfl, rfl⟩, ⟨v, q1, q2⟩, q3⟩)
    (fun m meth c A a g mk v t L k n Y hp _ _ ⟨⟨q1, q2⟩, ⟨v', q3, q4⟩, q5⟩ => by
      cases q3; subst q1 q2
      refine ⟨L, q4, rfl, rfl, rfl, CHr.trans (CHv.at Y hZ hEL H) ?_⟩
      rw [← hp.2.1]; exact q5)
theorem own_safe_new {vm : Vm} (H : CHv Z EL vm h) (E : Ext h h') (q : h.size ≤ a) : Safe Z EL vm h' a := Safe.ext E H (Safe.new q)
end OwnKitW
theorem own_of255 (x : Int32) : ∃ k : Fin 256, (x &&& 255) = Int32.ofNat k.val := by
  refine ⟨⟨(x &&& 255).toBitVec.toNat, ?_⟩, ?_⟩
  · simp only [Int32.toBitVec_and, BitVec.toNat_and]
    exact Nat.lt_succ_of_le Nat.and_le_right
  · apply Int32.toBitVec_inj.mp
    show _ = BitVec.ofNat 32 _
    rw [BitVec.ofNat_toNat]; simp
theorem own_m255 (x : Int32) : ¬ (x &&& (255 : Int32)) < 0 ∧ ¬ (255 : Int32) < (x &&& (255 : Int32)) := by
  have t : ∀ k : Fin 256, ¬ (Int32.ofNat k.val) < 0 ∧ ¬ (255 : Int32) < (Int32.ofNat k.val) := by decide +kernel
  obtain ⟨k, hk⟩ := own_of255 x
  rw [hk]; exact t k
theorem own_nc255 (x : Int32) : nar .char (x &&& (255 : Int32)) = (x &&& (255 : Int32)) := i2c_mask x
theorem own_fin {c : Int32} (h : ¬ c < 0 ∧ ¬ (255 : Int32) < c) : ∃ k : Fin 256, c = Int32.ofNat k.val := by
  have h1 := h.1; have h2 := h.2
  rw [Int32.lt_iff_toInt_lt] at h1 h2
  have e0 : (0 : Int32).toInt = 0 := rfl
  have e1 : (255 : Int32).toInt = 255 := rfl
  obtain ⟨k, hk⟩ : ∃ k : Nat, c.toInt = k := ⟨c.toInt.toNat, by omega⟩
  exact ⟨⟨k, by omega⟩, Int32.toInt_inj.mp (by rw [hk, Int32.toInt_ofNat_small (by omega)])⟩
theorem own_ncl {c : Int32} (h : ¬ c < 0 ∧ ¬ (255 : Int32) < c) : nar .char c = c := by
  have t : ∀ k : Fin 256, nar .char (Int32.ofNat k.val) = Int32.ofNat k.val := by decide +kernel
  obtain ⟨k, rfl⟩ := own_fin h
  exact t k
theorem own_nc16 (x : Int32) : nar .char (x.toUInt32.toUInt16.toUInt32.toInt32) = x.toUInt32.toUInt16.toUInt32.toInt32 := by
  show (x.toUInt32.toUInt16.toUInt32.toInt32).toUInt32.toUInt16.toUInt32.toInt32 = _
  simp only [UInt32.toUInt32_toInt32, UInt16.toUInt16_toUInt32]
theorem own_b8 (x : Int32) : nar .byte (x.toInt8.toInt32) = x.toInt8.toInt32 := by
  show (x.toInt8.toInt32).toInt8.toInt32 = _
  rw [Int8.toInt8_toInt32]
def own_ch (x : Int32) : Int32 := if (x &&& (1 : Int32)) = (0 : Int32) then (((x.toUInt32 >>> ((1 : Int32) &&& 31).toUInt32).toInt32) &&& (255 : Int32)) else (46 : Int32)
theorem own_chl (x : Int32) : ¬ own_ch x < 0 ∧ ¬ (255 : Int32) < own_ch x := by
  unfold own_ch; split
  · exact own_m255 _
  · exact ⟨by decide, by decide⟩
theorem own_b46' : ∀ k : Fin 256, ((Int32.ofNat k.val).toInt8.toInt32 = (46 : Int32)) ↔ (Int32.ofNat k.val = (46 : Int32)) := by decide +kernel
theorem own_b46 {c : Int32} (h : ¬ c < 0 ∧ ¬ (255 : Int32) < c) (e : c = (46 : Int32)) : c.toInt8.toInt32 = (46 : Int32) := by
  subst e; decide
theorem own_b46n {c : Int32} (h : ¬ c < 0 ∧ ¬ (255 : Int32) < c) (e : ¬ c = (46 : Int32)) : ¬ c.toInt8.toInt32 = (46 : Int32) := by
  obtain ⟨k, rfl⟩ := own_fin h
  exact fun q => e ((own_b46' k).mp q)
theorem own_c46 {c : Int32} (h : ¬ c < 0 ∧ ¬ (255 : Int32) < c) (e : c.toInt8.toInt32 = (46 : Int32)) : c = (46 : Int32) := by
  obtain ⟨k, rfl⟩ := own_fin h
  exact (own_b46' k).mp e
theorem own_c46n {c : Int32} (h : ¬ c < 0 ∧ ¬ (255 : Int32) < c) (e : ¬ c.toInt8.toInt32 = (46 : Int32)) : ¬ c = (46 : Int32) := fun q => e (own_b46 h q)
def own_k (i c p : Int32) : Int32 := if c = (46 : Int32) then i else p
theorem own_k1 {i c p : Int32} (h : c = (46 : Int32)) : own_k i c p = i := if_pos h
theorem own_k0 {i c p : Int32} (h : ¬ c = (46 : Int32)) : own_k i c p = p := if_neg h
theorem own_mod5 (x : Int32) : ((x &&& (2147483647 : Int32)) % (5 : Int32)) = (0 : Int32) ∨ ((x &&& (2147483647 : Int32)) % (5 : Int32)) = (1 : Int32) ∨ ((x &&& (2147483647 : Int32)) % (5 : Int32)) = (2 : Int32) ∨ ((x &&& (2147483647 : Int32)) % (5 : Int32)) = (3 : Int32) ∨ ((x &&& (2147483647 : Int32)) % (5 : Int32)) = (4 : Int32) := by
  have e : (x &&& (2147483647 : Int32)).toBitVec.toNat ≤ 2147483647 := by
    simp only [Int32.toBitVec_and, BitVec.toNat_and]
    exact Nat.and_le_right
  have e2 : (x &&& (2147483647 : Int32)).toInt = ((x &&& (2147483647 : Int32)).toBitVec.toNat : Int) := by
    show (x &&& (2147483647 : Int32)).toBitVec.toInt = _
    rw [BitVec.toInt_eq_toNat_of_lt (by omega)]
  have m : ((x &&& (2147483647 : Int32)) % (5 : Int32)).toInt = (x &&& (2147483647 : Int32)).toInt.tmod 5 := by rw [Int32.toInt_mod]; rfl
  rw [e2] at m
  have p : ((x &&& (2147483647 : Int32)).toBitVec.toNat : Int).tmod 5 = ((x &&& (2147483647 : Int32)).toBitVec.toNat : Int) % 5 := Int.tmod_eq_emod_of_nonneg (by omega)
  rw [p] at m
  have q : ∀ n : Int32, ((x &&& (2147483647 : Int32)) % (5 : Int32)).toInt = n.toInt → ((x &&& (2147483647 : Int32)) % (5 : Int32)) = n := fun n hn => Int32.toInt_inj.mp hn
  have r0 : (0 : Int32).toInt = 0 := rfl
  have r1 : (1 : Int32).toInt = 1 := rfl
  have r2 : (2 : Int32).toInt = 2 := rfl
  have r3 : (3 : Int32).toInt = 3 := rfl
  have r4 : (4 : Int32).toInt = 4 := rfl
  have s : ((x &&& (2147483647 : Int32)) % (5 : Int32)).toInt = 0 ∨ ((x &&& (2147483647 : Int32)) % (5 : Int32)).toInt = 1 ∨ ((x &&& (2147483647 : Int32)) % (5 : Int32)).toInt = 2 ∨ ((x &&& (2147483647 : Int32)) % (5 : Int32)).toInt = 3 ∨ ((x &&& (2147483647 : Int32)) % (5 : Int32)).toInt = 4 := by omega
  rcases s with s | s | s | s | s
  · exact Or.inl (q _ (by rw [s, r0]))
  · exact Or.inr (Or.inl (q _ (by rw [s, r1])))
  · exact Or.inr (Or.inr (Or.inl (q _ (by rw [s, r2]))))
  · exact Or.inr (Or.inr (Or.inr (Or.inl (q _ (by rw [s, r3])))))
  · exact Or.inr (Or.inr (Or.inr (Or.inr (q _ (by rw [s, r4])))))
theorem own_hws {a0 : Array Value} {Z : State} (hw : ∀ d ∈ tables_1, d.before a0 Z = true) : ∀ d ∈ StrChars.Road.words, d.before a0 Z = true := fun d hd => hw d ((by decide +kernel : ∀ d ∈ StrChars.Road.words, d ∈ tables_1) d hd)
theorem own_hln {a0 : Array Value} {Z : State} (hw : ∀ d ∈ tables_1, d.before a0 Z = true) : ∀ d ∈ StrChars.Road.wordsLen, d.before a0 Z = true := fun d hd => hw d ((by decide +kernel : ∀ d ∈ StrChars.Road.wordsLen, d ∈ tables_1) d hd)
theorem own_hch {a0 : Array Value} {Z : State} (hw : ∀ d ∈ tables_1, d.before a0 Z = true) : ∀ d ∈ StrChars.Road.wordsChN, d.before a0 Z = true := fun d hd => hw d ((by decide +kernel : ∀ d ∈ StrChars.Road.wordsChN, d ∈ tables_1) d hd)
theorem own_up (cs : List Int32) (h : ∀ c ∈ cs, ¬ c < 0 ∧ ¬ (255 : Int32) < c) : ∀ c ∈ cs, ¬ c < 0 ∧ ¬ (65535 : Int32) < c := fun c hc => ⟨(h c hc).1, fun q => (h c hc).2 (by
  rw [Int32.lt_iff_toInt_lt] at q ⊢
  have e1 : (65535 : Int32).toInt = 65535 := rfl
  have e2 : (255 : Int32).toInt = 255 := rfl
  omega)⟩
abbrev y0 : MethodName := ⟨"com/example/bill_of_claims/billofclaims/labels/LabelWordsPrefixPinLaw", "ch", "(I)C"⟩
abbrev y1 : MethodName := ⟨"java/lang/String", "<init>", "([CIILjava/lang/Void;)V"⟩
abbrev y2 : MethodName := ⟨"java/lang/String", "<init>", "([C)V"⟩
abbrev y3 : MethodName := ⟨"java/lang/String", "length", "()I"⟩
abbrev y4 : MethodName := ⟨"java/lang/String", "isLatin1", "()Z"⟩
abbrev y5 : MethodName := ⟨"java/lang/StringLatin1", "canEncode", "(I)Z"⟩
abbrev y6 : MethodName := ⟨"java/lang/Math", "min", "(II)I"⟩
abbrev y7 : MethodName := ⟨"java/lang/StringLatin1", "lastIndexOf", "([BII)I"⟩
abbrev y8 : MethodName := ⟨"java/lang/String", "lastIndexOf", "(II)I"⟩
abbrev y9 : MethodName := ⟨"java/lang/String", "lastIndexOf", "(I)I"⟩
abbrev y10 : MethodName := ⟨"jdk/internal/util/Preconditions", "checkFromToIndex", "(IIILjava/util/function/BiFunction;)I"⟩
abbrev y11 : MethodName := ⟨"java/lang/String", "checkBoundsBeginEnd", "(III)V"⟩
abbrev y12 : MethodName := ⟨"java/lang/String", "substring", "(II)Ljava/lang/String;"⟩
abbrev y13 : MethodName := ⟨"com/example/bill_of_claims/billofclaims/labels/LabelWords", "prefix", "(Ljava/lang/String;)Ljava/lang/String;"⟩
abbrev y14 : MethodName := ⟨"java/lang/StringLatin1", "newString", "([BII)Ljava/lang/String;"⟩
abbrev y15 : MethodName := ⟨"java/lang/String", "charAt", "(I)C"⟩
abbrev y16 : MethodName := ⟨"java/util/Arrays", "checkLength", "(II)V"⟩
abbrev y17 : MethodName := ⟨"java/util/Arrays", "copyOfRangeByte", "([BII)[B"⟩
abbrev y18 : MethodName := ⟨"java/util/Arrays", "copyOfRange", "([BII)[B"⟩
abbrev y19 : MethodName := ⟨"java/lang/String", "<init>", "([BB)V"⟩
theorem d1_0 : decode method_2_code 0 = .ok (.iload_n 0, 1) := by decide +kernel
theorem d1_1 : decode method_2_code 1 = .ok (.iconst 1, 1) := by decide +kernel
theorem d1_2 : decode method_2_code 2 = .ok (.iand, 1) := by decide +kernel
theorem d1_3 : decode method_2_code 3 = .ok (.ifCond .eq 8, 3) := by decide +kernel
theorem d1_6 : decode method_2_code 6 = .ok (.bipush 46, 2) := by decide +kernel
theorem d1_8 : decode method_2_code 8 = .ok (.goto 11, 3) := by decide +kernel
theorem d1_11 : decode method_2_code 11 = .ok (.iload_n 0, 1) := by decide +kernel
theorem d1_12 : decode method_2_code 12 = .ok (.iconst 1, 1) := by decide +kernel
theorem d1_13 : decode method_2_code 13 = .ok (.iushr, 1) := by decide +kernel
theorem d1_14 : decode method_2_code 14 = .ok (.sipush 255, 3) := by decide +kernel
theorem d1_17 : decode method_2_code 17 = .ok (.iand, 1) := by decide +kernel
theorem d1_18 : decode method_2_code 18 = .ok (.i2c, 1) := by decide +kernel
theorem d1_19 : decode method_2_code 19 = .ok (.ireturn, 1) := by decide +kernel
theorem d2_0 : decode jdk_42_method_3_code 0 = .ok (.aload_n 0, 1) := by decide +kernel
theorem d2_1 : decode jdk_42_method_3_code 1 = .ok (.aload_n 1, 1) := by decide +kernel
theorem d2_2 : decode jdk_42_method_3_code 2 = .ok (.iconst 0, 1) := by decide +kernel
theorem d2_3 : decode jdk_42_method_3_code 3 = .ok (.aload_n 1, 1) := by decide +kernel
theorem d2_4 : decode jdk_42_method_3_code 4 = .ok (.arraylength, 1) := by decide +kernel
theorem d2_5 : decode jdk_42_method_3_code 5 = .ok (.aconst_null, 1) := by decide +kernel
theorem d2_6 : decode jdk_42_method_3_code 6 = .ok (.invokespecial 27, 3) := by decide +kernel
theorem d2_9 : decode jdk_42_method_3_code 9 = .ok (.return_, 1) := by decide +kernel
theorem d3_0 : decode jdk_42_method_149_code 0 = .ok (.aload_n 0, 1) := by decide +kernel
theorem d3_1 : decode jdk_42_method_149_code 1 = .ok (.invokespecial 1, 3) := by decide +kernel
theorem d3_4 : decode jdk_42_method_149_code 4 = .ok (.iload_n 3, 1) := by decide +kernel
theorem d3_5 : decode jdk_42_method_149_code 5 = .ok (.ifCond .ne 22, 3) := by decide +kernel
theorem d3_8 : decode jdk_42_method_149_code 8 = .ok (.aload_n 0, 1) := by decide +kernel
theorem d3_9 : decode jdk_42_method_149_code 9 = .ok (.ldc 7, 2) := by decide +kernel
theorem d3_11 : decode jdk_42_method_149_code 11 = .ok (.getfield 9, 3) := by decide +kernel
theorem d3_14 : decode jdk_42_method_149_code 14 = .ok (.putfield 9, 3) := by decide +kernel
theorem d3_17 : decode jdk_42_method_149_code 17 = .ok (.aload_n 0, 1) := by decide +kernel
theorem d3_18 : decode jdk_42_method_149_code 18 = .ok (.ldc 7, 2) := by decide +kernel
theorem d3_20 : decode jdk_42_method_149_code 20 = .ok (.getfield 15, 3) := by decide +kernel
theorem d3_23 : decode jdk_42_method_149_code 23 = .ok (.putfield 15, 3) := by decide +kernel
theorem d3_26 : decode jdk_42_method_149_code 26 = .ok (.return_, 1) := by decide +kernel
theorem d5_0 : decode prog_41_method_5_code 0 = .ok (.aload_n 0, 1) := by decide +kernel
theorem d5_1 : decode prog_41_method_5_code 1 = .ok (.iconst 0, 1) := by decide +kernel
theorem d5_2 : decode prog_41_method_5_code 2 = .ok (.aload_n 0, 1) := by decide +kernel
theorem d5_3 : decode prog_41_method_5_code 3 = .ok (.bipush 46, 2) := by decide +kernel
theorem d5_5 : decode prog_41_method_5_code 5 = .ok (.invokevirtual 135, 3) := by decide +kernel
theorem d5_8 : decode prog_41_method_5_code 8 = .ok (.iconst 1, 1) := by decide +kernel
theorem d5_9 : decode prog_41_method_5_code 9 = .ok (.iadd, 1) := by decide +kernel
theorem d5_10 : decode prog_41_method_5_code 10 = .ok (.invokevirtual 139, 3) := by decide +kernel
theorem d5_13 : decode prog_41_method_5_code 13 = .ok (.areturn, 1) := by decide +kernel
theorem d6_0 : decode jdk_42_method_82_code 0 = .ok (.aload_n 0, 1) := by decide +kernel
theorem d6_1 : decode jdk_42_method_82_code 1 = .ok (.iload_n 1, 1) := by decide +kernel
theorem d6_2 : decode jdk_42_method_82_code 2 = .ok (.aload_n 0, 1) := by decide +kernel
theorem d6_3 : decode jdk_42_method_82_code 3 = .ok (.invokevirtual 505, 3) := by decide +kernel
theorem d6_6 : decode jdk_42_method_82_code 6 = .ok (.iconst 1, 1) := by decide +kernel
theorem d6_7 : decode jdk_42_method_82_code 7 = .ok (.isub, 1) := by decide +kernel
theorem d6_8 : decode jdk_42_method_82_code 8 = .ok (.invokevirtual 641, 3) := by decide +kernel
theorem d6_11 : decode jdk_42_method_82_code 11 = .ok (.ireturn, 1) := by decide +kernel
theorem d9_0 : decode jdk_42_method_83_code 0 = .ok (.aload_n 0, 1) := by decide +kernel
theorem d9_1 : decode jdk_42_method_83_code 1 = .ok (.invokevirtual 492, 3) := by decide +kernel
theorem d9_4 : decode jdk_42_method_83_code 4 = .ok (.ifCond .eq 15, 3) := by decide +kernel
theorem d9_7 : decode jdk_42_method_83_code 7 = .ok (.aload_n 0, 1) := by decide +kernel
theorem d9_8 : decode jdk_42_method_83_code 8 = .ok (.getfield 9, 3) := by decide +kernel
theorem d9_11 : decode jdk_42_method_83_code 11 = .ok (.iload_n 1, 1) := by decide +kernel
theorem d9_12 : decode jdk_42_method_83_code 12 = .ok (.iload_n 2, 1) := by decide +kernel
theorem d9_13 : decode jdk_42_method_83_code 13 = .ok (.invokestatic 644, 3) := by decide +kernel
theorem d9_16 : decode jdk_42_method_83_code 16 = .ok (.goto 12, 3) := by decide +kernel
theorem d9_28 : decode jdk_42_method_83_code 28 = .ok (.ireturn, 1) := by decide +kernel
theorem d10_0 : decode jdk_42_method_154_code 0 = .ok (.getstatic 38, 3) := by decide +kernel
theorem d10_3 : decode jdk_42_method_154_code 3 = .ok (.ifCond .eq 14, 3) := by decide +kernel
theorem d10_6 : decode jdk_42_method_154_code 6 = .ok (.aload_n 0, 1) := by decide +kernel
theorem d10_7 : decode jdk_42_method_154_code 7 = .ok (.getfield 15, 3) := by decide +kernel
theorem d10_10 : decode jdk_42_method_154_code 10 = .ok (.ifCond .ne 7, 3) := by decide +kernel
theorem d10_13 : decode jdk_42_method_154_code 13 = .ok (.iconst 1, 1) := by decide +kernel
theorem d10_14 : decode jdk_42_method_154_code 14 = .ok (.goto 4, 3) := by decide +kernel
theorem d10_18 : decode jdk_42_method_154_code 18 = .ok (.ireturn, 1) := by decide +kernel
theorem d11_0 : decode jdk_43_method_27_code 0 = .ok (.iload_n 1, 1) := by decide +kernel
theorem d11_1 : decode jdk_43_method_27_code 1 = .ok (.invokestatic 88, 3) := by decide +kernel
theorem d11_4 : decode jdk_43_method_27_code 4 = .ok (.ifCond .ne 5, 3) := by decide +kernel
theorem d11_9 : decode jdk_43_method_27_code 9 = .ok (.iload_n 2, 1) := by decide +kernel
theorem d11_10 : decode jdk_43_method_27_code 10 = .ok (.aload_n 0, 1) := by decide +kernel
theorem d11_11 : decode jdk_43_method_27_code 11 = .ok (.arraylength, 1) := by decide +kernel
theorem d11_12 : decode jdk_43_method_27_code 12 = .ok (.iconst 1, 1) := by decide +kernel
theorem d11_13 : decode jdk_43_method_27_code 13 = .ok (.isub, 1) := by decide +kernel
theorem d11_14 : decode jdk_43_method_27_code 14 = .ok (.invokestatic 38, 3) := by decide +kernel
theorem d11_17 : decode jdk_43_method_27_code 17 = .ok (.istore_n 3, 1) := by decide +kernel
theorem d11_18 : decode jdk_43_method_27_code 18 = .ok (.iload_n 3, 1) := by decide +kernel
theorem d11_19 : decode jdk_43_method_27_code 19 = .ok (.ifCond .lt 19, 3) := by decide +kernel
theorem d11_22 : decode jdk_43_method_27_code 22 = .ok (.aload_n 0, 1) := by decide +kernel
theorem d11_23 : decode jdk_43_method_27_code 23 = .ok (.iload_n 3, 1) := by decide +kernel
theorem d11_24 : decode jdk_43_method_27_code 24 = .ok (.baload, 1) := by decide +kernel
theorem d11_25 : decode jdk_43_method_27_code 25 = .ok (.iload_n 1, 1) := by decide +kernel
theorem d11_26 : decode jdk_43_method_27_code 26 = .ok (.i2b, 1) := by decide +kernel
theorem d11_27 : decode jdk_43_method_27_code 27 = .ok (.if_icmp .ne 5, 3) := by decide +kernel
theorem d11_30 : decode jdk_43_method_27_code 30 = .ok (.iload_n 3, 1) := by decide +kernel
theorem d11_31 : decode jdk_43_method_27_code 31 = .ok (.ireturn, 1) := by decide +kernel
theorem d11_32 : decode jdk_43_method_27_code 32 = .ok (.iinc 3 (-1), 3) := by decide +kernel
theorem d11_35 : decode jdk_43_method_27_code 35 = .ok (.goto (-17), 3) := by decide +kernel
theorem d11_38 : decode jdk_43_method_27_code 38 = .ok (.iconst (-1), 1) := by decide +kernel
theorem d11_39 : decode jdk_43_method_27_code 39 = .ok (.ireturn, 1) := by decide +kernel
theorem d12_0 : decode jdk_43_method_4_code 0 = .ok (.iload_n 0, 1) := by decide +kernel
theorem d12_1 : decode jdk_43_method_4_code 1 = .ok (.ifCond .lt 14, 3) := by decide +kernel
theorem d12_4 : decode jdk_43_method_4_code 4 = .ok (.iload_n 0, 1) := by decide +kernel
theorem d12_5 : decode jdk_43_method_4_code 5 = .ok (.sipush 255, 3) := by decide +kernel
theorem d12_8 : decode jdk_43_method_4_code 8 = .ok (.if_icmp .gt 7, 3) := by decide +kernel
theorem d12_11 : decode jdk_43_method_4_code 11 = .ok (.iconst 1, 1) := by decide +kernel
theorem d12_12 : decode jdk_43_method_4_code 12 = .ok (.goto 4, 3) := by decide +kernel
theorem d12_16 : decode jdk_43_method_4_code 16 = .ok (.ireturn, 1) := by decide +kernel
theorem d13_0 : decode jdk_29_method_69_code 0 = .ok (.iload_n 0, 1) := by decide +kernel
theorem d13_1 : decode jdk_29_method_69_code 1 = .ok (.iload_n 1, 1) := by decide +kernel
theorem d13_2 : decode jdk_29_method_69_code 2 = .ok (.if_icmp .gt 7, 3) := by decide +kernel
theorem d13_5 : decode jdk_29_method_69_code 5 = .ok (.iload_n 0, 1) := by decide +kernel
theorem d13_6 : decode jdk_29_method_69_code 6 = .ok (.goto 4, 3) := by decide +kernel
theorem d13_9 : decode jdk_29_method_69_code 9 = .ok (.iload_n 1, 1) := by decide +kernel
theorem d13_10 : decode jdk_29_method_69_code 10 = .ok (.ireturn, 1) := by decide +kernel
theorem d14_0 : decode jdk_42_method_92_code 0 = .ok (.aload_n 0, 1) := by decide +kernel
theorem d14_1 : decode jdk_42_method_92_code 1 = .ok (.invokevirtual 505, 3) := by decide +kernel
theorem d14_4 : decode jdk_42_method_92_code 4 = .ok (.istore_n 3, 1) := by decide +kernel
theorem d14_5 : decode jdk_42_method_92_code 5 = .ok (.iload_n 1, 1) := by decide +kernel
theorem d14_6 : decode jdk_42_method_92_code 6 = .ok (.iload_n 2, 1) := by decide +kernel
theorem d14_7 : decode jdk_42_method_92_code 7 = .ok (.iload_n 3, 1) := by decide +kernel
theorem d14_8 : decode jdk_42_method_92_code 8 = .ok (.invokestatic 521, 3) := by decide +kernel
theorem d14_11 : decode jdk_42_method_92_code 11 = .ok (.iload_n 1, 1) := by decide +kernel
theorem d14_12 : decode jdk_42_method_92_code 12 = .ok (.ifCond .ne 10, 3) := by decide +kernel
theorem d14_15 : decode jdk_42_method_92_code 15 = .ok (.iload_n 2, 1) := by decide +kernel
theorem d14_16 : decode jdk_42_method_92_code 16 = .ok (.iload_n 3, 1) := by decide +kernel
theorem d14_17 : decode jdk_42_method_92_code 17 = .ok (.if_icmp .ne 5, 3) := by decide +kernel
theorem d14_20 : decode jdk_42_method_92_code 20 = .ok (.aload_n 0, 1) := by decide +kernel
theorem d14_21 : decode jdk_42_method_92_code 21 = .ok (.areturn, 1) := by decide +kernel
theorem d14_22 : decode jdk_42_method_92_code 22 = .ok (.iload_n 2, 1) := by decide +kernel
theorem d14_23 : decode jdk_42_method_92_code 23 = .ok (.iload_n 1, 1) := by decide +kernel
theorem d14_24 : decode jdk_42_method_92_code 24 = .ok (.isub, 1) := by decide +kernel
theorem d14_25 : decode jdk_42_method_92_code 25 = .ok (.istore 4, 2) := by decide +kernel
theorem d14_27 : decode jdk_42_method_92_code 27 = .ok (.aload_n 0, 1) := by decide +kernel
theorem d14_28 : decode jdk_42_method_92_code 28 = .ok (.invokevirtual 492, 3) := by decide +kernel
theorem d14_31 : decode jdk_42_method_92_code 31 = .ok (.ifCond .eq 16, 3) := by decide +kernel
theorem d14_34 : decode jdk_42_method_92_code 34 = .ok (.aload_n 0, 1) := by decide +kernel
theorem d14_35 : decode jdk_42_method_92_code 35 = .ok (.getfield 9, 3) := by decide +kernel
theorem d14_38 : decode jdk_42_method_92_code 38 = .ok (.iload_n 1, 1) := by decide +kernel
theorem d14_39 : decode jdk_42_method_92_code 39 = .ok (.iload 4, 2) := by decide +kernel
theorem d14_41 : decode jdk_42_method_92_code 41 = .ok (.invokestatic 685, 3) := by decide +kernel
theorem d14_44 : decode jdk_42_method_92_code 44 = .ok (.goto 13, 3) := by decide +kernel
theorem d14_57 : decode jdk_42_method_92_code 57 = .ok (.areturn, 1) := by decide +kernel
theorem d15_0 : decode jdk_42_method_158_code 0 = .ok (.iload_n 0, 1) := by decide +kernel
theorem d15_1 : decode jdk_42_method_158_code 1 = .ok (.iload_n 1, 1) := by decide +kernel
theorem d15_2 : decode jdk_42_method_158_code 2 = .ok (.iload_n 2, 1) := by decide +kernel
theorem d15_3 : decode jdk_42_method_158_code 3 = .ok (.getstatic 1053, 3) := by decide +kernel
theorem d15_6 : decode jdk_42_method_158_code 6 = .ok (.invokestatic 1062, 3) := by decide +kernel
theorem d15_9 : decode jdk_42_method_158_code 9 = .ok (.pop, 1) := by decide +kernel
theorem d15_10 : decode jdk_42_method_158_code 10 = .ok (.return_, 1) := by decide +kernel
theorem d16_0 : decode jdk_41_method_12_code 0 = .ok (.iload_n 0, 1) := by decide +kernel
theorem d16_1 : decode jdk_41_method_12_code 1 = .ok (.ifCond .lt 13, 3) := by decide +kernel
theorem d16_4 : decode jdk_41_method_12_code 4 = .ok (.iload_n 0, 1) := by decide +kernel
theorem d16_5 : decode jdk_41_method_12_code 5 = .ok (.iload_n 1, 1) := by decide +kernel
theorem d16_6 : decode jdk_41_method_12_code 6 = .ok (.if_icmp .gt 8, 3) := by decide +kernel
theorem d16_9 : decode jdk_41_method_12_code 9 = .ok (.iload_n 1, 1) := by decide +kernel
theorem d16_10 : decode jdk_41_method_12_code 10 = .ok (.iload_n 2, 1) := by decide +kernel
theorem d16_11 : decode jdk_41_method_12_code 11 = .ok (.if_icmp .le 11, 3) := by decide +kernel
theorem d16_22 : decode jdk_41_method_12_code 22 = .ok (.iload_n 0, 1) := by decide +kernel
theorem d16_23 : decode jdk_41_method_12_code 23 = .ok (.ireturn, 1) := by decide +kernel
theorem d20_0 : decode jdk_43_method_47_code 0 = .ok (.iload_n 2, 1) := by decide +kernel
theorem d20_1 : decode jdk_43_method_47_code 1 = .ok (.ifCond .ne 6, 3) := by decide +kernel
theorem d20_4 : decode jdk_43_method_47_code 4 = .ok (.ldc 151, 2) := by decide +kernel
theorem d20_6 : decode jdk_43_method_47_code 6 = .ok (.areturn, 1) := by decide +kernel
theorem d20_7 : decode jdk_43_method_47_code 7 = .ok (.new 1, 3) := by decide +kernel
theorem d20_10 : decode jdk_43_method_47_code 10 = .ok (.dup, 1) := by decide +kernel
theorem d20_11 : decode jdk_43_method_47_code 11 = .ok (.aload_n 0, 1) := by decide +kernel
theorem d20_12 : decode jdk_43_method_47_code 12 = .ok (.iload_n 1, 1) := by decide +kernel
theorem d20_13 : decode jdk_43_method_47_code 13 = .ok (.iload_n 1, 1) := by decide +kernel
theorem d20_14 : decode jdk_43_method_47_code 14 = .ok (.iload_n 2, 1) := by decide +kernel
theorem d20_15 : decode jdk_43_method_47_code 15 = .ok (.iadd, 1) := by decide +kernel
theorem d20_16 : decode jdk_43_method_47_code 16 = .ok (.invokestatic 232, 3) := by decide +kernel
theorem d20_19 : decode jdk_43_method_47_code 19 = .ok (.iconst 0, 1) := by decide +kernel
theorem d20_20 : decode jdk_43_method_47_code 20 = .ok (.invokespecial 112, 3) := by decide +kernel
theorem d20_23 : decode jdk_43_method_47_code 23 = .ok (.areturn, 1) := by decide +kernel
theorem d21_0 : decode jdk_65_method_132_code 0 = .ok (.iload_n 1, 1) := by decide +kernel
theorem d21_1 : decode jdk_65_method_132_code 1 = .ok (.ifCond .ne 9, 3) := by decide +kernel
theorem d21_4 : decode jdk_65_method_132_code 4 = .ok (.iload_n 2, 1) := by decide +kernel
theorem d21_5 : decode jdk_65_method_132_code 5 = .ok (.aload_n 0, 1) := by decide +kernel
theorem d21_6 : decode jdk_65_method_132_code 6 = .ok (.arraylength, 1) := by decide +kernel
theorem d21_7 : decode jdk_65_method_132_code 7 = .ok (.if_icmp .eq 10, 3) := by decide +kernel
theorem d21_10 : decode jdk_65_method_132_code 10 = .ok (.aload_n 0, 1) := by decide +kernel
theorem d21_11 : decode jdk_65_method_132_code 11 = .ok (.iload_n 1, 1) := by decide +kernel
theorem d21_12 : decode jdk_65_method_132_code 12 = .ok (.iload_n 2, 1) := by decide +kernel
theorem d21_13 : decode jdk_65_method_132_code 13 = .ok (.invokestatic 339, 3) := by decide +kernel
theorem d21_16 : decode jdk_65_method_132_code 16 = .ok (.areturn, 1) := by decide +kernel
theorem d22_0 : decode jdk_65_method_133_code 0 = .ok (.iload_n 1, 1) := by decide +kernel
theorem d22_1 : decode jdk_65_method_133_code 1 = .ok (.iload_n 2, 1) := by decide +kernel
theorem d22_2 : decode jdk_65_method_133_code 2 = .ok (.invokestatic 343, 3) := by decide +kernel
theorem d22_5 : decode jdk_65_method_133_code 5 = .ok (.iload_n 2, 1) := by decide +kernel
theorem d22_6 : decode jdk_65_method_133_code 6 = .ok (.iload_n 1, 1) := by decide +kernel
theorem d22_7 : decode jdk_65_method_133_code 7 = .ok (.isub, 1) := by decide +kernel
theorem d22_8 : decode jdk_65_method_133_code 8 = .ok (.istore_n 3, 1) := by decide +kernel
theorem d22_9 : decode jdk_65_method_133_code 9 = .ok (.iload_n 3, 1) := by decide +kernel
theorem d22_10 : decode jdk_65_method_133_code 10 = .ok (.newarray .byte, 2) := by decide +kernel
theorem d22_12 : decode jdk_65_method_133_code 12 = .ok (.astore 4, 2) := by decide +kernel
theorem d22_14 : decode jdk_65_method_133_code 14 = .ok (.aload_n 0, 1) := by decide +kernel
theorem d22_15 : decode jdk_65_method_133_code 15 = .ok (.iload_n 1, 1) := by decide +kernel
theorem d22_16 : decode jdk_65_method_133_code 16 = .ok (.aload 4, 2) := by decide +kernel
theorem d22_18 : decode jdk_65_method_133_code 18 = .ok (.iconst 0, 1) := by decide +kernel
theorem d22_19 : decode jdk_65_method_133_code 19 = .ok (.aload_n 0, 1) := by decide +kernel
theorem d22_20 : decode jdk_65_method_133_code 20 = .ok (.arraylength, 1) := by decide +kernel
theorem d22_21 : decode jdk_65_method_133_code 21 = .ok (.iload_n 1, 1) := by decide +kernel
theorem d22_22 : decode jdk_65_method_133_code 22 = .ok (.isub, 1) := by decide +kernel
theorem d22_23 : decode jdk_65_method_133_code 23 = .ok (.iload_n 3, 1) := by decide +kernel
theorem d22_24 : decode jdk_65_method_133_code 24 = .ok (.invokestatic 304, 3) := by decide +kernel
theorem d22_27 : decode jdk_65_method_133_code 27 = .ok (.invokestatic 150, 3) := by decide +kernel
theorem d22_30 : decode jdk_65_method_133_code 30 = .ok (.aload 4, 2) := by decide +kernel
theorem d22_32 : decode jdk_65_method_133_code 32 = .ok (.areturn, 1) := by decide +kernel
theorem d23_0 : decode jdk_65_method_131_code 0 = .ok (.iload_n 1, 1) := by decide +kernel
theorem d23_1 : decode jdk_65_method_131_code 1 = .ok (.iload_n 0, 1) := by decide +kernel
theorem d23_2 : decode jdk_65_method_131_code 2 = .ok (.if_icmp .ge 35, 3) := by decide +kernel
theorem d23_37 : decode jdk_65_method_131_code 37 = .ok (.return_, 1) := by decide +kernel
theorem d24_0 : decode jdk_42_method_151_code 0 = .ok (.aload_n 0, 1) := by decide +kernel
theorem d24_1 : decode jdk_42_method_151_code 1 = .ok (.invokespecial 1, 3) := by decide +kernel
theorem d24_4 : decode jdk_42_method_151_code 4 = .ok (.aload_n 0, 1) := by decide +kernel
theorem d24_5 : decode jdk_42_method_151_code 5 = .ok (.aload_n 1, 1) := by decide +kernel
theorem d24_6 : decode jdk_42_method_151_code 6 = .ok (.putfield 9, 3) := by decide +kernel
theorem d24_9 : decode jdk_42_method_151_code 9 = .ok (.aload_n 0, 1) := by decide +kernel
theorem d24_10 : decode jdk_42_method_151_code 10 = .ok (.iload_n 2, 1) := by decide +kernel
theorem d24_11 : decode jdk_42_method_151_code 11 = .ok (.putfield 15, 3) := by decide +kernel
theorem d24_14 : decode jdk_42_method_151_code 14 = .ok (.return_, 1) := by decide +kernel
theorem pd_0 : parseMethodDescriptor "(I)C" = some ⟨[.int], some .char⟩ := by decide +kernel
theorem pd_1 : parseMethodDescriptor "([CIILjava/lang/Void;)V" = some ⟨[(.array .char), .int, .int, (.object "java/lang/Void")], none⟩ := by decide +kernel
theorem pd_2 : parseMethodDescriptor "([C)V" = some ⟨[(.array .char)], none⟩ := by decide +kernel
theorem pd_3 : parseMethodDescriptor "()I" = some ⟨[], some .int⟩ := by decide +kernel
theorem pd_4 : parseMethodDescriptor "()Z" = some ⟨[], some .boolean⟩ := by decide +kernel
theorem pd_5 : parseMethodDescriptor "(I)Z" = some ⟨[.int], some .boolean⟩ := by decide +kernel
theorem pd_6 : parseMethodDescriptor "(II)I" = some ⟨[.int, .int], some .int⟩ := by decide +kernel
theorem pd_7 : parseMethodDescriptor "([BII)I" = some ⟨[(.array .byte), .int, .int], some .int⟩ := by decide +kernel
theorem pd_8 : parseMethodDescriptor "(I)I" = some ⟨[.int], some .int⟩ := by decide +kernel
theorem pd_9 : parseMethodDescriptor "(IIILjava/util/function/BiFunction;)I" = some ⟨[.int, .int, .int, (.object "java/util/function/BiFunction")], some .int⟩ := by decide +kernel
theorem pd_10 : parseMethodDescriptor "(III)V" = some ⟨[.int, .int, .int], none⟩ := by decide +kernel
theorem pd_11 : parseMethodDescriptor "(II)Ljava/lang/String;" = some ⟨[.int, .int], some (.object "java/lang/String")⟩ := by decide +kernel
theorem pd_12 : parseMethodDescriptor "(Ljava/lang/String;)Ljava/lang/String;" = some ⟨[(.object "java/lang/String")], some (.object "java/lang/String")⟩ := by decide +kernel
theorem pd_13 : parseMethodDescriptor "([BII)Ljava/lang/String;" = some ⟨[(.array .byte), .int, .int], some (.object "java/lang/String")⟩ := by decide +kernel
theorem pd_14 : parseMethodDescriptor "(II)V" = some ⟨[.int, .int], none⟩ := by decide +kernel
theorem pd_15 : parseMethodDescriptor "([BII)[B" = some ⟨[(.array .byte), .int, .int], some (.array .byte)⟩ := by decide +kernel
theorem pd_16 : parseMethodDescriptor "([BB)V" = some ⟨[(.array .byte), .byte], none⟩ := by decide +kernel
theorem pn_0 : plainName "com/example/bill_of_claims/billofclaims/labels/LabelWordsPrefixPinLaw" = true := by first | (simp [plainName, overriddenIn]; done) | decide +kernel
theorem pn_1 : plainName "java/lang/String" = true := by first | (simp [plainName, overriddenIn]; done) | decide +kernel
theorem pn_2 : plainName "java/lang/StringLatin1" = true := by first | (simp [plainName, overriddenIn]; done) | decide +kernel
theorem pn_3 : plainName "jdk/internal/util/Preconditions" = true := by first | (simp [plainName, overriddenIn]; done) | decide +kernel
theorem pn_4 : plainName "com/example/bill_of_claims/billofclaims/labels/LabelWords" = true := by first | (simp [plainName, overriddenIn]; done) | decide +kernel
theorem pn_5 : plainName "java/util/Arrays" = true := by first | (simp [plainName, overriddenIn]; done) | decide +kernel
theorem ef_1_2 (m : MethodId) (x0 : Int32) : entryFrame m #[(.int x0)] 1 = mkF m 0 #[vI x0] [] := by first | (simp [entryFrame, mkF, argsToLocals, Value.category]; done) | rfl
theorem ef_3_5 (m : MethodId) (x0 : Addr) (x1 : Addr) : entryFrame m #[(.ref x0), (.ref x1), (.int (0 : Int32)), (.int (0 : Int32)), .null] 6 = mkF m 0 #[vR x0, vR x1, vI (0 : Int32), vI (0 : Int32), vN, vU] [] := by first | (simp [entryFrame, mkF, argsToLocals, Value.category]; done) | rfl
theorem ef_2_6 (m : MethodId) (x0 : Addr) (x1 : Addr) : entryFrame m #[(.ref x0), (.ref x1)] 2 = mkF m 0 #[vR x0, vR x1] [] := by first | (simp [entryFrame, mkF, argsToLocals, Value.category]; done) | rfl
theorem ef_10_10 (m : MethodId) (x0 : Addr) : entryFrame m #[(.ref x0)] 1 = mkF m 0 #[vR x0] [] := by first | (simp [entryFrame, mkF, argsToLocals, Value.category]; done) | rfl
theorem ef_12_12 (m : MethodId)  : entryFrame m #[(.int (46 : Int32))] 1 = mkF m 0 #[vI (46 : Int32)] [] := by first | (simp [entryFrame, mkF, argsToLocals, Value.category]; done) | rfl
theorem ef_13_13 (m : MethodId)  : entryFrame m #[(.int (-1 : Int32)), (.int (-1 : Int32))] 2 = mkF m 0 #[vI (-1 : Int32), vI (-1 : Int32)] [] := by first | (simp [entryFrame, mkF, argsToLocals, Value.category]; done) | rfl
theorem ef_11_11 (m : MethodId) (x0 : Addr) : entryFrame m #[(.ref x0), (.int (46 : Int32)), (.int (-1 : Int32))] 4 = mkF m 0 #[vR x0, vI (46 : Int32), vI (-1 : Int32), vU] [] := by first | (simp [entryFrame, mkF, argsToLocals, Value.category]; done) | rfl
theorem ef_9_9 (m : MethodId) (x0 : Addr) : entryFrame m #[(.ref x0), (.int (46 : Int32)), (.int (-1 : Int32))] 3 = mkF m 0 #[vR x0, vI (46 : Int32), vI (-1 : Int32)] [] := by first | (simp [entryFrame, mkF, argsToLocals, Value.category]; done) | rfl
theorem ef_6_8 (m : MethodId) (x0 : Addr) : entryFrame m #[(.ref x0), (.int (46 : Int32))] 2 = mkF m 0 #[vR x0, vI (46 : Int32)] [] := by first | (simp [entryFrame, mkF, argsToLocals, Value.category]; done) | rfl
theorem ef_16_16 (m : MethodId) (x3 : Value) (hr3 : x3.isRef = true) : entryFrame m #[(.int (0 : Int32)), (.int (0 : Int32)), (.int (0 : Int32)), x3] 4 = mkF m 0 #[vI (0 : Int32), vI (0 : Int32), vI (0 : Int32), .val x3] [] := by rcases ref_cases hr3 with rfl | ⟨_, rfl⟩ <;> first | (simp [entryFrame, mkF, argsToLocals, Value.category]; done) | rfl
theorem ef_15_15 (m : MethodId)  : entryFrame m #[(.int (0 : Int32)), (.int (0 : Int32)), (.int (0 : Int32))] 3 = mkF m 0 #[vI (0 : Int32), vI (0 : Int32), vI (0 : Int32)] [] := by first | (simp [entryFrame, mkF, argsToLocals, Value.category]; done) | rfl
theorem ef_14_14 (m : MethodId) (x0 : Addr) : entryFrame m #[(.ref x0), (.int (0 : Int32)), (.int (0 : Int32))] 5 = mkF m 0 #[vR x0, vI (0 : Int32), vI (0 : Int32), vU, vU] [] := by first | (simp [entryFrame, mkF, argsToLocals, Value.category]; done) | rfl
theorem ef_5_7 (m : MethodId) (x0 : Addr) : entryFrame m #[(.ref x0)] 1 = mkF m 0 #[vR x0] [] := by first | (simp [entryFrame, mkF, argsToLocals, Value.category]; done) | rfl
theorem ef_10_20 (m : MethodId) (x0 : Addr) : entryFrame m #[(.ref x0)] 1 = mkF m 0 #[vR x0] [] := by first | (simp [entryFrame, mkF, argsToLocals, Value.category]; done) | rfl
theorem ef_13_22 (m : MethodId)  : entryFrame m #[(.int (0 : Int32)), (.int (0 : Int32))] 2 = mkF m 0 #[vI (0 : Int32), vI (0 : Int32)] [] := by first | (simp [entryFrame, mkF, argsToLocals, Value.category]; done) | rfl
theorem ef_11_21 (m : MethodId) (x0 : Addr) : entryFrame m #[(.ref x0), (.int (46 : Int32)), (.int (0 : Int32))] 4 = mkF m 0 #[vR x0, vI (46 : Int32), vI (0 : Int32), vU] [] := by first | (simp [entryFrame, mkF, argsToLocals, Value.category]; done) | rfl
theorem ef_9_19 (m : MethodId) (x0 : Addr) : entryFrame m #[(.ref x0), (.int (46 : Int32)), (.int (0 : Int32))] 3 = mkF m 0 #[vR x0, vI (46 : Int32), vI (0 : Int32)] [] := by first | (simp [entryFrame, mkF, argsToLocals, Value.category]; done) | rfl
theorem ef_6_18 (m : MethodId) (x0 : Addr) : entryFrame m #[(.ref x0), (.int (46 : Int32))] 2 = mkF m 0 #[vR x0, vI (46 : Int32)] [] := by first | (simp [entryFrame, mkF, argsToLocals, Value.category]; done) | rfl
theorem ef_16_25 (m : MethodId) (x3 : Value) (hr3 : x3.isRef = true) : entryFrame m #[(.int (0 : Int32)), (.int (1 : Int32)), (.int (1 : Int32)), x3] 4 = mkF m 0 #[vI (0 : Int32), vI (1 : Int32), vI (1 : Int32), .val x3] [] := by rcases ref_cases hr3 with rfl | ⟨_, rfl⟩ <;> first | (simp [entryFrame, mkF, argsToLocals, Value.category]; done) | rfl
theorem ef_15_24 (m : MethodId)  : entryFrame m #[(.int (0 : Int32)), (.int (1 : Int32)), (.int (1 : Int32))] 3 = mkF m 0 #[vI (0 : Int32), vI (1 : Int32), vI (1 : Int32)] [] := by first | (simp [entryFrame, mkF, argsToLocals, Value.category]; done) | rfl
theorem ef_14_23 (m : MethodId) (x0 : Addr) : entryFrame m #[(.ref x0), (.int (0 : Int32)), (.int (1 : Int32))] 5 = mkF m 0 #[vR x0, vI (0 : Int32), vI (1 : Int32), vU, vU] [] := by first | (simp [entryFrame, mkF, argsToLocals, Value.category]; done) | rfl
theorem ef_16_28 (m : MethodId) (x3 : Value) (hr3 : x3.isRef = true) : entryFrame m #[(.int (0 : Int32)), (.int (0 : Int32)), (.int (1 : Int32)), x3] 4 = mkF m 0 #[vI (0 : Int32), vI (0 : Int32), vI (1 : Int32), .val x3] [] := by rcases ref_cases hr3 with rfl | ⟨_, rfl⟩ <;> first | (simp [entryFrame, mkF, argsToLocals, Value.category]; done) | rfl
theorem ef_15_27 (m : MethodId)  : entryFrame m #[(.int (0 : Int32)), (.int (0 : Int32)), (.int (1 : Int32))] 3 = mkF m 0 #[vI (0 : Int32), vI (0 : Int32), vI (1 : Int32)] [] := by first | (simp [entryFrame, mkF, argsToLocals, Value.category]; done) | rfl
theorem ef_20_30 (m : MethodId) (x0 : Addr) : entryFrame m #[(.ref x0), (.int (0 : Int32)), (.int (0 : Int32))] 3 = mkF m 0 #[vR x0, vI (0 : Int32), vI (0 : Int32)] [] := by first | (simp [entryFrame, mkF, argsToLocals, Value.category]; done) | rfl
theorem ef_14_31 (m : MethodId) (x0 : Addr) : entryFrame m #[(.ref x0), (.int (0 : Int32)), (.int (0 : Int32))] 5 = mkF m 0 #[vR x0, vI (0 : Int32), vI (0 : Int32), vU, vU] [] := by first | (simp [entryFrame, mkF, argsToLocals, Value.category]; done) | rfl
theorem ef_5_32 (m : MethodId) (x0 : Addr) : entryFrame m #[(.ref x0)] 1 = mkF m 0 #[vR x0] [] := by first | (simp [entryFrame, mkF, argsToLocals, Value.category]; done) | rfl
theorem ef_10_36 (m : MethodId) (x0 : Addr) : entryFrame m #[(.ref x0)] 1 = mkF m 0 #[vR x0] [] := by first | (simp [entryFrame, mkF, argsToLocals, Value.category]; done) | rfl
theorem ef_13_38 (m : MethodId)  : entryFrame m #[(.int (1 : Int32)), (.int (1 : Int32))] 2 = mkF m 0 #[vI (1 : Int32), vI (1 : Int32)] [] := by first | (simp [entryFrame, mkF, argsToLocals, Value.category]; done) | rfl
theorem ef_11_37 (m : MethodId) (x0 : Addr) : entryFrame m #[(.ref x0), (.int (46 : Int32)), (.int (1 : Int32))] 4 = mkF m 0 #[vR x0, vI (46 : Int32), vI (1 : Int32), vU] [] := by first | (simp [entryFrame, mkF, argsToLocals, Value.category]; done) | rfl
theorem ef_9_35 (m : MethodId) (x0 : Addr) : entryFrame m #[(.ref x0), (.int (46 : Int32)), (.int (1 : Int32))] 3 = mkF m 0 #[vR x0, vI (46 : Int32), vI (1 : Int32)] [] := by first | (simp [entryFrame, mkF, argsToLocals, Value.category]; done) | rfl
theorem ef_6_34 (m : MethodId) (x0 : Addr) : entryFrame m #[(.ref x0), (.int (46 : Int32))] 2 = mkF m 0 #[vR x0, vI (46 : Int32)] [] := by first | (simp [entryFrame, mkF, argsToLocals, Value.category]; done) | rfl
theorem ef_16_41 (m : MethodId) (x3 : Value) (hr3 : x3.isRef = true) : entryFrame m #[(.int (0 : Int32)), (.int (2 : Int32)), (.int (2 : Int32)), x3] 4 = mkF m 0 #[vI (0 : Int32), vI (2 : Int32), vI (2 : Int32), .val x3] [] := by rcases ref_cases hr3 with rfl | ⟨_, rfl⟩ <;> first | (simp [entryFrame, mkF, argsToLocals, Value.category]; done) | rfl
theorem ef_15_40 (m : MethodId)  : entryFrame m #[(.int (0 : Int32)), (.int (2 : Int32)), (.int (2 : Int32))] 3 = mkF m 0 #[vI (0 : Int32), vI (2 : Int32), vI (2 : Int32)] [] := by first | (simp [entryFrame, mkF, argsToLocals, Value.category]; done) | rfl
theorem ef_14_39 (m : MethodId) (x0 : Addr) : entryFrame m #[(.ref x0), (.int (0 : Int32)), (.int (2 : Int32))] 5 = mkF m 0 #[vR x0, vI (0 : Int32), vI (2 : Int32), vU, vU] [] := by first | (simp [entryFrame, mkF, argsToLocals, Value.category]; done) | rfl
theorem ef_16_44 (m : MethodId) (x3 : Value) (hr3 : x3.isRef = true) : entryFrame m #[(.int (0 : Int32)), (.int (1 : Int32)), (.int (2 : Int32)), x3] 4 = mkF m 0 #[vI (0 : Int32), vI (1 : Int32), vI (2 : Int32), .val x3] [] := by rcases ref_cases hr3 with rfl | ⟨_, rfl⟩ <;> first | (simp [entryFrame, mkF, argsToLocals, Value.category]; done) | rfl
theorem ef_15_43 (m : MethodId)  : entryFrame m #[(.int (0 : Int32)), (.int (1 : Int32)), (.int (2 : Int32))] 3 = mkF m 0 #[vI (0 : Int32), vI (1 : Int32), vI (2 : Int32)] [] := by first | (simp [entryFrame, mkF, argsToLocals, Value.category]; done) | rfl
theorem ef_23_48 (m : MethodId)  : entryFrame m #[(.int (0 : Int32)), (.int (1 : Int32))] 2 = mkF m 0 #[vI (0 : Int32), vI (1 : Int32)] [] := by first | (simp [entryFrame, mkF, argsToLocals, Value.category]; done) | rfl
theorem ef_13_49 (m : MethodId)  : entryFrame m #[(.int (2 : Int32)), (.int (1 : Int32))] 2 = mkF m 0 #[vI (2 : Int32), vI (1 : Int32)] [] := by first | (simp [entryFrame, mkF, argsToLocals, Value.category]; done) | rfl
theorem ef_22_47 (m : MethodId) (x0 : Addr) : entryFrame m #[(.ref x0), (.int (0 : Int32)), (.int (1 : Int32))] 5 = mkF m 0 #[vR x0, vI (0 : Int32), vI (1 : Int32), vU, vU] [] := by first | (simp [entryFrame, mkF, argsToLocals, Value.category]; done) | rfl
theorem ef_21_46 (m : MethodId) (x0 : Addr) : entryFrame m #[(.ref x0), (.int (0 : Int32)), (.int (1 : Int32))] 3 = mkF m 0 #[vR x0, vI (0 : Int32), vI (1 : Int32)] [] := by first | (simp [entryFrame, mkF, argsToLocals, Value.category]; done) | rfl
theorem ef_24_50 (m : MethodId) (x0 : Addr) (x1 : Addr) : entryFrame m #[(.ref x0), (.ref x1), (.int (0 : Int32))] 3 = mkF m 0 #[vR x0, vR x1, vI (0 : Int32)] [] := by first | (simp [entryFrame, mkF, argsToLocals, Value.category]; done) | rfl
theorem ef_20_45 (m : MethodId) (x0 : Addr) : entryFrame m #[(.ref x0), (.int (0 : Int32)), (.int (1 : Int32))] 3 = mkF m 0 #[vR x0, vI (0 : Int32), vI (1 : Int32)] [] := by first | (simp [entryFrame, mkF, argsToLocals, Value.category]; done) | rfl
theorem ef_14_42 (m : MethodId) (x0 : Addr) : entryFrame m #[(.ref x0), (.int (0 : Int32)), (.int (1 : Int32))] 5 = mkF m 0 #[vR x0, vI (0 : Int32), vI (1 : Int32), vU, vU] [] := by first | (simp [entryFrame, mkF, argsToLocals, Value.category]; done) | rfl
theorem ef_16_53 (m : MethodId) (x3 : Value) (hr3 : x3.isRef = true) : entryFrame m #[(.int (0 : Int32)), (.int (0 : Int32)), (.int (2 : Int32)), x3] 4 = mkF m 0 #[vI (0 : Int32), vI (0 : Int32), vI (2 : Int32), .val x3] [] := by rcases ref_cases hr3 with rfl | ⟨_, rfl⟩ <;> first | (simp [entryFrame, mkF, argsToLocals, Value.category]; done) | rfl
theorem ef_15_52 (m : MethodId)  : entryFrame m #[(.int (0 : Int32)), (.int (0 : Int32)), (.int (2 : Int32))] 3 = mkF m 0 #[vI (0 : Int32), vI (0 : Int32), vI (2 : Int32)] [] := by first | (simp [entryFrame, mkF, argsToLocals, Value.category]; done) | rfl
theorem ef_20_55 (m : MethodId) (x0 : Addr) : entryFrame m #[(.ref x0), (.int (0 : Int32)), (.int (0 : Int32))] 3 = mkF m 0 #[vR x0, vI (0 : Int32), vI (0 : Int32)] [] := by first | (simp [entryFrame, mkF, argsToLocals, Value.category]; done) | rfl
theorem ef_14_56 (m : MethodId) (x0 : Addr) : entryFrame m #[(.ref x0), (.int (0 : Int32)), (.int (0 : Int32))] 5 = mkF m 0 #[vR x0, vI (0 : Int32), vI (0 : Int32), vU, vU] [] := by first | (simp [entryFrame, mkF, argsToLocals, Value.category]; done) | rfl
theorem ef_5_57 (m : MethodId) (x0 : Addr) : entryFrame m #[(.ref x0)] 1 = mkF m 0 #[vR x0] [] := by first | (simp [entryFrame, mkF, argsToLocals, Value.category]; done) | rfl
theorem ef_10_61 (m : MethodId) (x0 : Addr) : entryFrame m #[(.ref x0)] 1 = mkF m 0 #[vR x0] [] := by first | (simp [entryFrame, mkF, argsToLocals, Value.category]; done) | rfl
theorem ef_13_63 (m : MethodId)  : entryFrame m #[(.int (2 : Int32)), (.int (2 : Int32))] 2 = mkF m 0 #[vI (2 : Int32), vI (2 : Int32)] [] := by first | (simp [entryFrame, mkF, argsToLocals, Value.category]; done) | rfl
theorem ef_11_62 (m : MethodId) (x0 : Addr) : entryFrame m #[(.ref x0), (.int (46 : Int32)), (.int (2 : Int32))] 4 = mkF m 0 #[vR x0, vI (46 : Int32), vI (2 : Int32), vU] [] := by first | (simp [entryFrame, mkF, argsToLocals, Value.category]; done) | rfl
theorem ef_9_60 (m : MethodId) (x0 : Addr) : entryFrame m #[(.ref x0), (.int (46 : Int32)), (.int (2 : Int32))] 3 = mkF m 0 #[vR x0, vI (46 : Int32), vI (2 : Int32)] [] := by first | (simp [entryFrame, mkF, argsToLocals, Value.category]; done) | rfl
theorem ef_6_59 (m : MethodId) (x0 : Addr) : entryFrame m #[(.ref x0), (.int (46 : Int32))] 2 = mkF m 0 #[vR x0, vI (46 : Int32)] [] := by first | (simp [entryFrame, mkF, argsToLocals, Value.category]; done) | rfl
theorem ef_16_66 (m : MethodId) (x3 : Value) (hr3 : x3.isRef = true) : entryFrame m #[(.int (0 : Int32)), (.int (3 : Int32)), (.int (3 : Int32)), x3] 4 = mkF m 0 #[vI (0 : Int32), vI (3 : Int32), vI (3 : Int32), .val x3] [] := by rcases ref_cases hr3 with rfl | ⟨_, rfl⟩ <;> first | (simp [entryFrame, mkF, argsToLocals, Value.category]; done) | rfl
theorem ef_15_65 (m : MethodId)  : entryFrame m #[(.int (0 : Int32)), (.int (3 : Int32)), (.int (3 : Int32))] 3 = mkF m 0 #[vI (0 : Int32), vI (3 : Int32), vI (3 : Int32)] [] := by first | (simp [entryFrame, mkF, argsToLocals, Value.category]; done) | rfl
theorem ef_14_64 (m : MethodId) (x0 : Addr) : entryFrame m #[(.ref x0), (.int (0 : Int32)), (.int (3 : Int32))] 5 = mkF m 0 #[vR x0, vI (0 : Int32), vI (3 : Int32), vU, vU] [] := by first | (simp [entryFrame, mkF, argsToLocals, Value.category]; done) | rfl
theorem ef_16_69 (m : MethodId) (x3 : Value) (hr3 : x3.isRef = true) : entryFrame m #[(.int (0 : Int32)), (.int (2 : Int32)), (.int (3 : Int32)), x3] 4 = mkF m 0 #[vI (0 : Int32), vI (2 : Int32), vI (3 : Int32), .val x3] [] := by rcases ref_cases hr3 with rfl | ⟨_, rfl⟩ <;> first | (simp [entryFrame, mkF, argsToLocals, Value.category]; done) | rfl
theorem ef_15_68 (m : MethodId)  : entryFrame m #[(.int (0 : Int32)), (.int (2 : Int32)), (.int (3 : Int32))] 3 = mkF m 0 #[vI (0 : Int32), vI (2 : Int32), vI (3 : Int32)] [] := by first | (simp [entryFrame, mkF, argsToLocals, Value.category]; done) | rfl
theorem ef_23_73 (m : MethodId)  : entryFrame m #[(.int (0 : Int32)), (.int (2 : Int32))] 2 = mkF m 0 #[vI (0 : Int32), vI (2 : Int32)] [] := by first | (simp [entryFrame, mkF, argsToLocals, Value.category]; done) | rfl
theorem ef_13_74 (m : MethodId)  : entryFrame m #[(.int (3 : Int32)), (.int (2 : Int32))] 2 = mkF m 0 #[vI (3 : Int32), vI (2 : Int32)] [] := by first | (simp [entryFrame, mkF, argsToLocals, Value.category]; done) | rfl
theorem ef_22_72 (m : MethodId) (x0 : Addr) : entryFrame m #[(.ref x0), (.int (0 : Int32)), (.int (2 : Int32))] 5 = mkF m 0 #[vR x0, vI (0 : Int32), vI (2 : Int32), vU, vU] [] := by first | (simp [entryFrame, mkF, argsToLocals, Value.category]; done) | rfl
theorem ef_21_71 (m : MethodId) (x0 : Addr) : entryFrame m #[(.ref x0), (.int (0 : Int32)), (.int (2 : Int32))] 3 = mkF m 0 #[vR x0, vI (0 : Int32), vI (2 : Int32)] [] := by first | (simp [entryFrame, mkF, argsToLocals, Value.category]; done) | rfl
theorem ef_24_75 (m : MethodId) (x0 : Addr) (x1 : Addr) : entryFrame m #[(.ref x0), (.ref x1), (.int (0 : Int32))] 3 = mkF m 0 #[vR x0, vR x1, vI (0 : Int32)] [] := by first | (simp [entryFrame, mkF, argsToLocals, Value.category]; done) | rfl
theorem ef_20_70 (m : MethodId) (x0 : Addr) : entryFrame m #[(.ref x0), (.int (0 : Int32)), (.int (2 : Int32))] 3 = mkF m 0 #[vR x0, vI (0 : Int32), vI (2 : Int32)] [] := by first | (simp [entryFrame, mkF, argsToLocals, Value.category]; done) | rfl
theorem ef_14_67 (m : MethodId) (x0 : Addr) : entryFrame m #[(.ref x0), (.int (0 : Int32)), (.int (2 : Int32))] 5 = mkF m 0 #[vR x0, vI (0 : Int32), vI (2 : Int32), vU, vU] [] := by first | (simp [entryFrame, mkF, argsToLocals, Value.category]; done) | rfl
theorem ef_16_78 (m : MethodId) (x3 : Value) (hr3 : x3.isRef = true) : entryFrame m #[(.int (0 : Int32)), (.int (1 : Int32)), (.int (3 : Int32)), x3] 4 = mkF m 0 #[vI (0 : Int32), vI (1 : Int32), vI (3 : Int32), .val x3] [] := by rcases ref_cases hr3 with rfl | ⟨_, rfl⟩ <;> first | (simp [entryFrame, mkF, argsToLocals, Value.category]; done) | rfl
theorem ef_15_77 (m : MethodId)  : entryFrame m #[(.int (0 : Int32)), (.int (1 : Int32)), (.int (3 : Int32))] 3 = mkF m 0 #[vI (0 : Int32), vI (1 : Int32), vI (3 : Int32)] [] := by first | (simp [entryFrame, mkF, argsToLocals, Value.category]; done) | rfl
theorem ef_13_82 (m : MethodId)  : entryFrame m #[(.int (3 : Int32)), (.int (1 : Int32))] 2 = mkF m 0 #[vI (3 : Int32), vI (1 : Int32)] [] := by first | (simp [entryFrame, mkF, argsToLocals, Value.category]; done) | rfl
theorem ef_22_81 (m : MethodId) (x0 : Addr) : entryFrame m #[(.ref x0), (.int (0 : Int32)), (.int (1 : Int32))] 5 = mkF m 0 #[vR x0, vI (0 : Int32), vI (1 : Int32), vU, vU] [] := by first | (simp [entryFrame, mkF, argsToLocals, Value.category]; done) | rfl
theorem ef_21_80 (m : MethodId) (x0 : Addr) : entryFrame m #[(.ref x0), (.int (0 : Int32)), (.int (1 : Int32))] 3 = mkF m 0 #[vR x0, vI (0 : Int32), vI (1 : Int32)] [] := by first | (simp [entryFrame, mkF, argsToLocals, Value.category]; done) | rfl
theorem ef_20_79 (m : MethodId) (x0 : Addr) : entryFrame m #[(.ref x0), (.int (0 : Int32)), (.int (1 : Int32))] 3 = mkF m 0 #[vR x0, vI (0 : Int32), vI (1 : Int32)] [] := by first | (simp [entryFrame, mkF, argsToLocals, Value.category]; done) | rfl
theorem ef_14_76 (m : MethodId) (x0 : Addr) : entryFrame m #[(.ref x0), (.int (0 : Int32)), (.int (1 : Int32))] 5 = mkF m 0 #[vR x0, vI (0 : Int32), vI (1 : Int32), vU, vU] [] := by first | (simp [entryFrame, mkF, argsToLocals, Value.category]; done) | rfl
theorem ef_16_85 (m : MethodId) (x3 : Value) (hr3 : x3.isRef = true) : entryFrame m #[(.int (0 : Int32)), (.int (0 : Int32)), (.int (3 : Int32)), x3] 4 = mkF m 0 #[vI (0 : Int32), vI (0 : Int32), vI (3 : Int32), .val x3] [] := by rcases ref_cases hr3 with rfl | ⟨_, rfl⟩ <;> first | (simp [entryFrame, mkF, argsToLocals, Value.category]; done) | rfl
theorem ef_15_84 (m : MethodId)  : entryFrame m #[(.int (0 : Int32)), (.int (0 : Int32)), (.int (3 : Int32))] 3 = mkF m 0 #[vI (0 : Int32), vI (0 : Int32), vI (3 : Int32)] [] := by first | (simp [entryFrame, mkF, argsToLocals, Value.category]; done) | rfl
theorem ef_20_87 (m : MethodId) (x0 : Addr) : entryFrame m #[(.ref x0), (.int (0 : Int32)), (.int (0 : Int32))] 3 = mkF m 0 #[vR x0, vI (0 : Int32), vI (0 : Int32)] [] := by first | (simp [entryFrame, mkF, argsToLocals, Value.category]; done) | rfl
theorem ef_14_88 (m : MethodId) (x0 : Addr) : entryFrame m #[(.ref x0), (.int (0 : Int32)), (.int (0 : Int32))] 5 = mkF m 0 #[vR x0, vI (0 : Int32), vI (0 : Int32), vU, vU] [] := by first | (simp [entryFrame, mkF, argsToLocals, Value.category]; done) | rfl
theorem ef_5_89 (m : MethodId) (x0 : Addr) : entryFrame m #[(.ref x0)] 1 = mkF m 0 #[vR x0] [] := by first | (simp [entryFrame, mkF, argsToLocals, Value.category]; done) | rfl
theorem ef_10_93 (m : MethodId) (x0 : Addr) : entryFrame m #[(.ref x0)] 1 = mkF m 0 #[vR x0] [] := by first | (simp [entryFrame, mkF, argsToLocals, Value.category]; done) | rfl
theorem ef_13_95 (m : MethodId)  : entryFrame m #[(.int (3 : Int32)), (.int (3 : Int32))] 2 = mkF m 0 #[vI (3 : Int32), vI (3 : Int32)] [] := by first | (simp [entryFrame, mkF, argsToLocals, Value.category]; done) | rfl
theorem ef_11_94 (m : MethodId) (x0 : Addr) : entryFrame m #[(.ref x0), (.int (46 : Int32)), (.int (3 : Int32))] 4 = mkF m 0 #[vR x0, vI (46 : Int32), vI (3 : Int32), vU] [] := by first | (simp [entryFrame, mkF, argsToLocals, Value.category]; done) | rfl
theorem ef_9_92 (m : MethodId) (x0 : Addr) : entryFrame m #[(.ref x0), (.int (46 : Int32)), (.int (3 : Int32))] 3 = mkF m 0 #[vR x0, vI (46 : Int32), vI (3 : Int32)] [] := by first | (simp [entryFrame, mkF, argsToLocals, Value.category]; done) | rfl
theorem ef_6_91 (m : MethodId) (x0 : Addr) : entryFrame m #[(.ref x0), (.int (46 : Int32))] 2 = mkF m 0 #[vR x0, vI (46 : Int32)] [] := by first | (simp [entryFrame, mkF, argsToLocals, Value.category]; done) | rfl
theorem ef_16_98 (m : MethodId) (x3 : Value) (hr3 : x3.isRef = true) : entryFrame m #[(.int (0 : Int32)), (.int (4 : Int32)), (.int (4 : Int32)), x3] 4 = mkF m 0 #[vI (0 : Int32), vI (4 : Int32), vI (4 : Int32), .val x3] [] := by rcases ref_cases hr3 with rfl | ⟨_, rfl⟩ <;> first | (simp [entryFrame, mkF, argsToLocals, Value.category]; done) | rfl
theorem ef_15_97 (m : MethodId)  : entryFrame m #[(.int (0 : Int32)), (.int (4 : Int32)), (.int (4 : Int32))] 3 = mkF m 0 #[vI (0 : Int32), vI (4 : Int32), vI (4 : Int32)] [] := by first | (simp [entryFrame, mkF, argsToLocals, Value.category]; done) | rfl
theorem ef_14_96 (m : MethodId) (x0 : Addr) : entryFrame m #[(.ref x0), (.int (0 : Int32)), (.int (4 : Int32))] 5 = mkF m 0 #[vR x0, vI (0 : Int32), vI (4 : Int32), vU, vU] [] := by first | (simp [entryFrame, mkF, argsToLocals, Value.category]; done) | rfl
theorem ef_16_101 (m : MethodId) (x3 : Value) (hr3 : x3.isRef = true) : entryFrame m #[(.int (0 : Int32)), (.int (3 : Int32)), (.int (4 : Int32)), x3] 4 = mkF m 0 #[vI (0 : Int32), vI (3 : Int32), vI (4 : Int32), .val x3] [] := by rcases ref_cases hr3 with rfl | ⟨_, rfl⟩ <;> first | (simp [entryFrame, mkF, argsToLocals, Value.category]; done) | rfl
theorem ef_15_100 (m : MethodId)  : entryFrame m #[(.int (0 : Int32)), (.int (3 : Int32)), (.int (4 : Int32))] 3 = mkF m 0 #[vI (0 : Int32), vI (3 : Int32), vI (4 : Int32)] [] := by first | (simp [entryFrame, mkF, argsToLocals, Value.category]; done) | rfl
theorem ef_23_105 (m : MethodId)  : entryFrame m #[(.int (0 : Int32)), (.int (3 : Int32))] 2 = mkF m 0 #[vI (0 : Int32), vI (3 : Int32)] [] := by first | (simp [entryFrame, mkF, argsToLocals, Value.category]; done) | rfl
theorem ef_13_106 (m : MethodId)  : entryFrame m #[(.int (4 : Int32)), (.int (3 : Int32))] 2 = mkF m 0 #[vI (4 : Int32), vI (3 : Int32)] [] := by first | (simp [entryFrame, mkF, argsToLocals, Value.category]; done) | rfl
theorem ef_22_104 (m : MethodId) (x0 : Addr) : entryFrame m #[(.ref x0), (.int (0 : Int32)), (.int (3 : Int32))] 5 = mkF m 0 #[vR x0, vI (0 : Int32), vI (3 : Int32), vU, vU] [] := by first | (simp [entryFrame, mkF, argsToLocals, Value.category]; done) | rfl
theorem ef_21_103 (m : MethodId) (x0 : Addr) : entryFrame m #[(.ref x0), (.int (0 : Int32)), (.int (3 : Int32))] 3 = mkF m 0 #[vR x0, vI (0 : Int32), vI (3 : Int32)] [] := by first | (simp [entryFrame, mkF, argsToLocals, Value.category]; done) | rfl
theorem ef_24_107 (m : MethodId) (x0 : Addr) (x1 : Addr) : entryFrame m #[(.ref x0), (.ref x1), (.int (0 : Int32))] 3 = mkF m 0 #[vR x0, vR x1, vI (0 : Int32)] [] := by first | (simp [entryFrame, mkF, argsToLocals, Value.category]; done) | rfl
theorem ef_20_102 (m : MethodId) (x0 : Addr) : entryFrame m #[(.ref x0), (.int (0 : Int32)), (.int (3 : Int32))] 3 = mkF m 0 #[vR x0, vI (0 : Int32), vI (3 : Int32)] [] := by first | (simp [entryFrame, mkF, argsToLocals, Value.category]; done) | rfl
theorem ef_14_99 (m : MethodId) (x0 : Addr) : entryFrame m #[(.ref x0), (.int (0 : Int32)), (.int (3 : Int32))] 5 = mkF m 0 #[vR x0, vI (0 : Int32), vI (3 : Int32), vU, vU] [] := by first | (simp [entryFrame, mkF, argsToLocals, Value.category]; done) | rfl
theorem ef_16_110 (m : MethodId) (x3 : Value) (hr3 : x3.isRef = true) : entryFrame m #[(.int (0 : Int32)), (.int (2 : Int32)), (.int (4 : Int32)), x3] 4 = mkF m 0 #[vI (0 : Int32), vI (2 : Int32), vI (4 : Int32), .val x3] [] := by rcases ref_cases hr3 with rfl | ⟨_, rfl⟩ <;> first | (simp [entryFrame, mkF, argsToLocals, Value.category]; done) | rfl
theorem ef_15_109 (m : MethodId)  : entryFrame m #[(.int (0 : Int32)), (.int (2 : Int32)), (.int (4 : Int32))] 3 = mkF m 0 #[vI (0 : Int32), vI (2 : Int32), vI (4 : Int32)] [] := by first | (simp [entryFrame, mkF, argsToLocals, Value.category]; done) | rfl
theorem ef_13_114 (m : MethodId)  : entryFrame m #[(.int (4 : Int32)), (.int (2 : Int32))] 2 = mkF m 0 #[vI (4 : Int32), vI (2 : Int32)] [] := by first | (simp [entryFrame, mkF, argsToLocals, Value.category]; done) | rfl
theorem ef_22_113 (m : MethodId) (x0 : Addr) : entryFrame m #[(.ref x0), (.int (0 : Int32)), (.int (2 : Int32))] 5 = mkF m 0 #[vR x0, vI (0 : Int32), vI (2 : Int32), vU, vU] [] := by first | (simp [entryFrame, mkF, argsToLocals, Value.category]; done) | rfl
theorem ef_21_112 (m : MethodId) (x0 : Addr) : entryFrame m #[(.ref x0), (.int (0 : Int32)), (.int (2 : Int32))] 3 = mkF m 0 #[vR x0, vI (0 : Int32), vI (2 : Int32)] [] := by first | (simp [entryFrame, mkF, argsToLocals, Value.category]; done) | rfl
theorem ef_20_111 (m : MethodId) (x0 : Addr) : entryFrame m #[(.ref x0), (.int (0 : Int32)), (.int (2 : Int32))] 3 = mkF m 0 #[vR x0, vI (0 : Int32), vI (2 : Int32)] [] := by first | (simp [entryFrame, mkF, argsToLocals, Value.category]; done) | rfl
theorem ef_14_108 (m : MethodId) (x0 : Addr) : entryFrame m #[(.ref x0), (.int (0 : Int32)), (.int (2 : Int32))] 5 = mkF m 0 #[vR x0, vI (0 : Int32), vI (2 : Int32), vU, vU] [] := by first | (simp [entryFrame, mkF, argsToLocals, Value.category]; done) | rfl
theorem ef_16_117 (m : MethodId) (x3 : Value) (hr3 : x3.isRef = true) : entryFrame m #[(.int (0 : Int32)), (.int (1 : Int32)), (.int (4 : Int32)), x3] 4 = mkF m 0 #[vI (0 : Int32), vI (1 : Int32), vI (4 : Int32), .val x3] [] := by rcases ref_cases hr3 with rfl | ⟨_, rfl⟩ <;> first | (simp [entryFrame, mkF, argsToLocals, Value.category]; done) | rfl
theorem ef_15_116 (m : MethodId)  : entryFrame m #[(.int (0 : Int32)), (.int (1 : Int32)), (.int (4 : Int32))] 3 = mkF m 0 #[vI (0 : Int32), vI (1 : Int32), vI (4 : Int32)] [] := by first | (simp [entryFrame, mkF, argsToLocals, Value.category]; done) | rfl
theorem ef_13_121 (m : MethodId)  : entryFrame m #[(.int (4 : Int32)), (.int (1 : Int32))] 2 = mkF m 0 #[vI (4 : Int32), vI (1 : Int32)] [] := by first | (simp [entryFrame, mkF, argsToLocals, Value.category]; done) | rfl
theorem ef_22_120 (m : MethodId) (x0 : Addr) : entryFrame m #[(.ref x0), (.int (0 : Int32)), (.int (1 : Int32))] 5 = mkF m 0 #[vR x0, vI (0 : Int32), vI (1 : Int32), vU, vU] [] := by first | (simp [entryFrame, mkF, argsToLocals, Value.category]; done) | rfl
theorem ef_21_119 (m : MethodId) (x0 : Addr) : entryFrame m #[(.ref x0), (.int (0 : Int32)), (.int (1 : Int32))] 3 = mkF m 0 #[vR x0, vI (0 : Int32), vI (1 : Int32)] [] := by first | (simp [entryFrame, mkF, argsToLocals, Value.category]; done) | rfl
theorem ef_20_118 (m : MethodId) (x0 : Addr) : entryFrame m #[(.ref x0), (.int (0 : Int32)), (.int (1 : Int32))] 3 = mkF m 0 #[vR x0, vI (0 : Int32), vI (1 : Int32)] [] := by first | (simp [entryFrame, mkF, argsToLocals, Value.category]; done) | rfl
theorem ef_14_115 (m : MethodId) (x0 : Addr) : entryFrame m #[(.ref x0), (.int (0 : Int32)), (.int (1 : Int32))] 5 = mkF m 0 #[vR x0, vI (0 : Int32), vI (1 : Int32), vU, vU] [] := by first | (simp [entryFrame, mkF, argsToLocals, Value.category]; done) | rfl
theorem ef_16_124 (m : MethodId) (x3 : Value) (hr3 : x3.isRef = true) : entryFrame m #[(.int (0 : Int32)), (.int (0 : Int32)), (.int (4 : Int32)), x3] 4 = mkF m 0 #[vI (0 : Int32), vI (0 : Int32), vI (4 : Int32), .val x3] [] := by rcases ref_cases hr3 with rfl | ⟨_, rfl⟩ <;> first | (simp [entryFrame, mkF, argsToLocals, Value.category]; done) | rfl
theorem ef_15_123 (m : MethodId)  : entryFrame m #[(.int (0 : Int32)), (.int (0 : Int32)), (.int (4 : Int32))] 3 = mkF m 0 #[vI (0 : Int32), vI (0 : Int32), vI (4 : Int32)] [] := by first | (simp [entryFrame, mkF, argsToLocals, Value.category]; done) | rfl
theorem ef_20_126 (m : MethodId) (x0 : Addr) : entryFrame m #[(.ref x0), (.int (0 : Int32)), (.int (0 : Int32))] 3 = mkF m 0 #[vR x0, vI (0 : Int32), vI (0 : Int32)] [] := by first | (simp [entryFrame, mkF, argsToLocals, Value.category]; done) | rfl
theorem ef_14_127 (m : MethodId) (x0 : Addr) : entryFrame m #[(.ref x0), (.int (0 : Int32)), (.int (0 : Int32))] 5 = mkF m 0 #[vR x0, vI (0 : Int32), vI (0 : Int32), vU, vU] [] := by first | (simp [entryFrame, mkF, argsToLocals, Value.category]; done) | rfl
theorem ef_5_128 (m : MethodId) (x0 : Addr) : entryFrame m #[(.ref x0)] 1 = mkF m 0 #[vR x0] [] := by first | (simp [entryFrame, mkF, argsToLocals, Value.category]; done) | rfl
theorem ef_law (m : MethodId) (x0 : Int32) (x1 : Int32) (x2 : Int32) (x3 : Int32) (x4 : Int32) : entryFrame m #[(.int x0), (.int x1), (.int x2), (.int x3), (.int x4)] maxLocals = mkF m 0 #[vI x0, vI x1, vI x2, vI x3, vI x4, vU, vU, vU, vU, vU, vU, vU, vU, vU] [] := by first | (simp [entryFrame, mkF, argsToLocals, Value.category, maxLocals]; done) | rfl
abbrev R1_2 : Room := { frames := 0, cells := 0, slots := 0, locals := 0 }
def Q1_2 (Z : State) (pi0 : Int32) (h0 : Heap) (n0 : Nat) (v : Option Value) (h : Heap) (L : List Loc) : Prop := (v = some (.int (own_ch pi0)) ∧ Fr n0 L ∧ h = h0)
theorem rm1_2 (l : Launch) (Z : State) (a0 : Array Value) (hw : HW Z a0) (pi0 : Int32) (h0 : Heap) (n0 : Nat) (OLD : Old Z n0 h0) :
    own_CN l Z y0 method_2_code 1 (some .char) [] R1_2 #[(.int pi0)] h0 (Q1_2 Z pi0 h0 n0) := by
  refine own_entryN (plainFor_of_name pn_0) fun p e s m below meth c s₁ hx hby hml hown hnm hret hlk hZ hh X0 e0 => ?_
  have N0 := Fr.nil n0
  rw [ef_1_2 m pi0]
  refine og s₁ (mkF m 3 #[vI pi0] [(.int (pi0 &&& (1 : Int32)))]) (fun _ k => XS.iloadN X0.here hx rfl (hb hby d1_0) rfl (XS.iconst X0.here hx rfl (hb hby d1_1) (XS.iand X0.here hx rfl (hb hby d1_2) rfl k))) ?_
  by_cases hc1 : (pi0 &&& (1 : Int32)) = (0 : Int32)
  · refine og s₁ (mkF m 18 #[vI pi0] [(.int (((pi0.toUInt32 >>> ((1 : Int32) &&& 31).toUInt32).toInt32) &&& (255 : Int32)))]) (fun _ k => XS.ifYes X0.here hx rfl (pc0 := 3) (pc' := 11) rfl (hb hby d1_3) rfl ((if0 _ _).trans (teq hc1).1) (by decide) (by decide) (XS.iloadN X0.here hx rfl (hb hby d1_11) rfl (XS.iconst X0.here hx rfl (hb hby d1_12) (XS.iushr X0.here hx rfl (hb hby d1_13) rfl (XS.sipush X0.here hx rfl (hb hby d1_14) (XS.iand X0.here hx rfl (hb hby d1_17) rfl k)))))) ?_
    refine og s₁ (mkF m 19 #[vI pi0] [(.int (((pi0.toUInt32 >>> ((1 : Int32) &&& 31).toUInt32).toInt32) &&& (255 : Int32)))]) (fun _ k => XS.i2c X0.here hx rfl (hb hby d1_18) rfl (by rw [i2c_mask]; exact k)) ?_
    exact own_leaveN X0 hlk (v := some (.int (nar .char (((pi0.toUInt32 >>> ((1 : Int32) &&& 31).toUInt32).toInt32) &&& (255 : Int32))))) (fun h => by rw [hret] at h; cases h) (lb rfl) (lb rfl) (by rw [e0]; exact ⟨(by first | rw [own_ch, if_pos (by assumption), own_nc255] | (rw [own_ch, if_neg (by assumption)]; rfl)), N0, rfl⟩) (fun fs hr => retN X0 hx (t := .char) hret (by simp) (hb hby d1_19) hr)
  · refine og s₁ (mkF m 19 #[vI pi0] [(.int (46 : Int32))]) (fun _ k => XS.ifNo X0.here hx rfl (hb hby d1_3) rfl ((if0 _ _).trans (feq hc1).1) (XS.bipush X0.here hx rfl (hb hby d1_6) (XS.goto X0.here hx rfl (pc0 := 8) (pc' := 19) rfl (hb hby d1_8) (by decide) (by decide) k))) ?_
    exact own_leaveN X0 hlk (v := some (.int (nar .char (46 : Int32)))) (fun h => by rw [hret] at h; cases h) (lb rfl) (lb rfl) (by rw [e0]; exact ⟨(by first | rw [own_ch, if_pos (by assumption), own_nc255] | (rw [own_ch, if_neg (by assumption)]; rfl)), N0, rfl⟩) (fun fs hr => retN X0 hx (t := .char) hret (by simp) (hb hby d1_19) hr)
abbrev R3_5 : Room := { frames := 1, cells := 4, slots := 8, locals := 12 }
def Q3_5 (Z : State) (ra0 : Addr) (ra1 : Addr) (kc2 : ClassId) (h0 : Heap) (n0 : Nat) (v : Option Value) (h : Heap) (L : List Loc) : Prop := (∃ (lb2 : Addr) (lk2 : ClassId), v = none ∧ Fr n0 L ∧ Keep h0 h [ra0] ∧ lb2 < h.size ∧ Fld Z h ra0 "java/lang/String" "coder" "B" (.int (0 : Int32)) ∧ Fld Z h ra0 "java/lang/String" "value" "[B" (.ref lb2) ∧ Arv Z h lb2 lk2 .byte (0 : Int32) [] (.int (0 : Int32)))
theorem rm3_5 (l : Launch) (Z : State) (a0 : Array Value) (hw : HW Z a0) (ra0 : Addr) (ra1 : Addr) (kc2 : ClassId) (h0 : Heap) (n0 : Nat) (OLD : Old Z n0 h0) (E_ra0 : Exa Z h0 ra0 "java/lang/String") (F_coder_ra0 : Fld Z h0 ra0 "java/lang/String" "coder" "B" (.int (0 : Int32))) (F_value_ra0 : Fld Z h0 ra0 "java/lang/String" "value" "[B" .null) (V_ra1 : Arv Z h0 ra1 kc2 .char (0 : Int32) [] (.int (0 : Int32))) (ge_ra0 : n0 ≤ ra0) :
    own_CW l Z y1 jdk_42_method_149_code 6 none [] R3_5 #[(.ref ra0), (.ref ra1), (.int (0 : Int32)), (.int (0 : Int32)), .null] h0 [ra0] (Q3_5 Z ra0 ra1 kc2 h0 n0) := by
  refine own_entryW (plainFor_of_name pn_1) fun p e s m below meth c s₁ hx hby hml hown hnm hret hlk hZ hh hCH hSf X0 e0 => ?_
  have N0 := Fr.nil n0
  have hS0 : s.Since s.vm h0.size := own_since s _
  have hk0 : h0.size ≤ h0.size := Nat.le_refl _
  have CH0 : CHr Z own_EL s.vm h0 s.vm h0 := CHr.refl hCH
  rw [ef_3_5 m ra0 ra1]
  refine og s₁ (mkF m 1 #[vR ra0, vR ra1, vI (0 : Int32), vI (0 : Int32), vN, vU] [(.ref ra0)]) (fun _ k => XS.aloadN X0.here hx rfl (hb hby d3_0) rfl rfl k) ?_
  obtain ⟨T1, X1, e1, st1⟩ := initO X0 hx hZ hown (own_w hw 16) (own_w hw 17) (own_w hw 18) e0 (g := (mkF m 1 #[vR ra0, vR ra1, vI (0 : Int32), vI (0 : Int32), vN, vU] [(.ref ra0)])) rfl (by rw [hml]; rfl) rfl (hb hby d3_1) (by decide) (W := 0) (lb rfl) (by decide)
  refine og T1 (mkF m 4 #[vR ra0, vR ra1, vI (0 : Int32), vI (0 : Int32), vN, vU] []) st1 ?_
  refine og T1 (mkF m 9 #[vR ra0, vR ra1, vI (0 : Int32), vI (0 : Int32), vN, vU] [(.ref ra0)]) (fun _ k => XS.iloadN X1.here hx rfl (hb hby d3_4) rfl (XS.ifNo X1.here hx rfl (hb hby d3_5) rfl ((if0 _ _).trans (teq (by decide : (0 : Int32) = (0 : Int32))).2) (XS.aloadN X1.here hx rfl (hb hby d3_8) rfl rfl k))) ?_
  obtain ⟨l2, T2, h2, k2, lb2, lk2, X2, e2, E2, hS2, hk2, hZ2, hown2, Ex2, Fc2, Fv2, Av2, la2, lz2, ch2, Lt2, sf2, st2⟩ := ldcCH X1 hx hZ hown (own_w hw 19) (own_wS hw) e1 hS0 hk0 (own_EW hw) (by decide) CH0.1 (vs := []) (z := (0 : Int32)) (by decide) (by decide) (by decide) (g := (mkF m 9 #[vR ra0, vR ra1, vI (0 : Int32), vI (0 : Int32), vN, vU] [(.ref ra0)])) rfl (hb hby d3_9) (n := 0) (by decide) (by decide) (lb rfl) (lb rfl)
  have CH3 := CHr.trans CH0 ch2
  refine og T2 (mkF m 11 #[vR ra0, vR ra1, vI (0 : Int32), vI (0 : Int32), vN, vU] [(.ref l2), (.ref ra0)]) st2 ?_
  obtain ⟨T4, X4, e4, st4⟩ := getF X2 hx hZ2 hown2 (host := "") (Or.inl (own_w hw 25)) Via.refl e2 Fv2 (g := (mkF m 11 #[vR ra0, vR ra1, vI (0 : Int32), vI (0 : Int32), vN, vU] [(.ref l2), (.ref ra0)])) rfl rfl (hb hby d3_11)
  refine og T4 (mkF m 14 #[vR ra0, vR ra1, vI (0 : Int32), vI (0 : Int32), vN, vU] [(.ref lb2), (.ref ra0)]) st4 ?_
  have F5 := (E_ra0.ext E2)
  have F6 := (F_value_ra0.ext E2)
  obtain ⟨T7, h7, X7, e7, W7, st7⟩ := putF X4 hx hZ2 hown2 (host := "") (Or.inl (own_w hw 25)) Via.refl e4 F6 F5 (Or.inr ⟨(own_w hw 21), rfl, hnm⟩) (own_w hw 7) (ty := (.array .byte)) (by decide) rfl rfl (g := (mkF m 14 #[vR ra0, vR ra1, vI (0 : Int32), vI (0 : Int32), vN, vU] [(.ref lb2), (.ref ra0)])) rfl rfl (hb hby d3_14)
  have Fw7 := F6.same W7
  have ch8 := CHr.wr W7 (CHr.safe ch2 E_ra0.lt (hSf _ (List.mem_of_getElem? (i := 0) rfl))) CH3.1
  have CH9 := CHr.trans CH3 ch8
  have N7 := Fr.snoc X7 N0 ge_ra0
  refine og T7 (mkF m 17 #[vR ra0, vR ra1, vI (0 : Int32), vI (0 : Int32), vN, vU] []) st7 ?_
  refine og T7 (mkF m 18 #[vR ra0, vR ra1, vI (0 : Int32), vI (0 : Int32), vN, vU] [(.ref ra0)]) (fun _ k => XS.aloadN X7.here hx rfl (hb hby d3_17) rfl rfl k) ?_
  have F11 := (Nat.le_trans hk2 (Nat.le_of_eq W7.size.symm))
  have F12 := (Nat.le_trans (Nat.le_trans (Nat.le_refl _) E2.1) (Nat.le_of_eq W7.size.symm))
  obtain ⟨l10, T10, h10, k10, lb10, lk10, X10, e10, E10, hS10, hk10, hZ10, hown10, Ex10, Fc10, Fv10, Av10, la10, lz10, ch10, Lt10, sf10, st10⟩ := ldcCH X7 hx hZ2 hown2 (own_w hw 19) (own_wS hw) e7 hS2 F11 (own_EW hw) (by decide) CH9.1 (vs := []) (z := (0 : Int32)) (by decide) (by decide) (by decide) (g := (mkF m 18 #[vR ra0, vR ra1, vI (0 : Int32), vI (0 : Int32), vN, vU] [(.ref ra0)])) rfl (hb hby d3_18) (n := 0) (by decide) (by decide) (lb rfl) (lb rfl)
  have CH13 := CHr.trans CH9 ch10
  refine og T10 (mkF m 20 #[vR ra0, vR ra1, vI (0 : Int32), vI (0 : Int32), vN, vU] [(.ref l10), (.ref ra0)]) st10 ?_
  obtain ⟨T14, X14, e14, st14⟩ := getF X10 hx hZ10 hown10 (host := "") (Or.inl (own_w hw 26)) Via.refl e10 Fc10 (g := (mkF m 20 #[vR ra0, vR ra1, vI (0 : Int32), vI (0 : Int32), vN, vU] [(.ref l10), (.ref ra0)])) rfl rfl (hb hby d3_20)
  refine og T14 (mkF m 23 #[vR ra0, vR ra1, vI (0 : Int32), vI (0 : Int32), vN, vU] [(.int (0 : Int32)), (.ref ra0)]) st14 ?_
  have F15 := ((F5.wr W7).ext E10)
  have F16 := (((F_coder_ra0.ext E2).other W7 (Or.inr (slot_ne (Or.inr (own_w hw 22)) (Or.inr (own_w hw 21)) (by decide) (t := .byte) (t' := (.array .byte)) (by decide) (by decide)))).ext E10)
  obtain ⟨T17, h17, X17, e17, W17, st17⟩ := putFN X14 hx hZ10 hown10 (own_w hw 26) Via.refl e14 F16 F15 (Or.inr ⟨(own_w hw 22), rfl, hnm⟩) (own_w hw 7) (ty := .byte) (v' := (.int (nar .byte (0 : Int32)))) (by decide) rfl (fits_nar_byte _) (g := (mkF m 23 #[vR ra0, vR ra1, vI (0 : Int32), vI (0 : Int32), vN, vU] [(.int (0 : Int32)), (.ref ra0)])) rfl rfl (hb hby d3_23)
  rw [show nar .byte (0 : Int32) = (0 : Int32) from rfl] at W17
  have Fw17 := F16.same W17
  have ch18 := CHr.wr W17 (CHr.safe ch10 (Nat.lt_of_lt_of_le (Nat.lt_of_lt_of_le E_ra0.lt E2.1) (Nat.le_of_eq W7.size.symm)) (CHr.safe ch8 (Nat.lt_of_lt_of_le E_ra0.lt E2.1) (CHr.safe ch2 E_ra0.lt (hSf _ (List.mem_of_getElem? (i := 0) rfl))))) CH13.1
  have CH19 := CHr.trans CH13 ch18
  have N17 := Fr.snoc X17 N7 ge_ra0
  refine og T17 (mkF m 26 #[vR ra0, vR ra1, vI (0 : Int32), vI (0 : Int32), vN, vU] []) st17 ?_
  have F20 := (Nat.lt_of_lt_of_le (Nat.lt_of_lt_of_le (Nat.lt_of_lt_of_le lz2 (Nat.le_of_eq W7.size.symm)) E10.1) (Nat.le_of_eq W17.size.symm))
  have F21 := ((Fw7.ext E10).other W17 (Or.inr (slot_ne (Or.inr (own_w hw 21)) (Or.inr (own_w hw 22)) (by decide) (t := (.array .byte)) (t' := .byte) (by decide) (by decide))))
  have F22 := (((Av2.other W7 (Ne.symm (own_ne_arv F5 (own_w hw 7) Av2))).ext E10).other W17 (Ne.symm (own_ne_arv F5 (own_w hw 7) Av2)))
  have K24 := (((((Keep.refl h0 [ra0]).ext E2).wr W7 (Or.inl (List.mem_of_getElem? (i := 0) rfl))).ext E10).wr W17 (Or.inl (List.mem_of_getElem? (i := 0) rfl)))
  have KEEP := K24
  have F23 := (Nat.le_trans hk10 (Nat.le_of_eq W17.size.symm))
  exact own_leaveW (s := s) (vm0 := T10.vm) X17 hS10 F23 hZ10 (own_EW hw) e17 CH19 hh hlk (v := none) (fun _ => rfl) (lb rfl) (lb rfl) (by rw [e17]; exact ⟨lb2, lk2, rfl, N17, KEEP, F20, Fw17, F21, F22⟩) (fun fs hr => X17.returnOut hx hret (hb hby d3_26) hr)
abbrev R2_6 : Room := { frames := 2, cells := 4, slots := 8, locals := 29 }
def Q2_6 (Z : State) (ra0 : Addr) (ra1 : Addr) (kc2 : ClassId) (h0 : Heap) (n0 : Nat) (v : Option Value) (h : Heap) (L : List Loc) : Prop := (∃ (o3 : Addr) (kc4 : ClassId), v = none ∧ Fr n0 L ∧ Keep h0 h [ra0] ∧ o3 < h.size ∧ Fld Z h ra0 "java/lang/String" "coder" "B" (.int (0 : Int32)) ∧ Fld Z h ra0 "java/lang/String" "value" "[B" (.ref o3) ∧ Arv Z h o3 kc4 .byte (0 : Int32) [] (.int (0 : Int32)))
theorem rm2_6 (l : Launch) (Z : State) (a0 : Array Value) (hw : HW Z a0) (ra0 : Addr) (ra1 : Addr) (kc2 : ClassId) (h0 : Heap) (n0 : Nat) (OLD : Old Z n0 h0) (E_ra0 : Exa Z h0 ra0 "java/lang/String") (F_coder_ra0 : Fld Z h0 ra0 "java/lang/String" "coder" "B" (.int (0 : Int32))) (F_value_ra0 : Fld Z h0 ra0 "java/lang/String" "value" "[B" .null) (V_ra1 : Arv Z h0 ra1 kc2 .char (0 : Int32) [] (.int (0 : Int32))) (ge_ra0 : n0 ≤ ra0) :
    own_CW l Z y2 jdk_42_method_3_code 2 none [] R2_6 #[(.ref ra0), (.ref ra1)] h0 [ra0] (Q2_6 Z ra0 ra1 kc2 h0 n0) := by
  refine own_entryW (plainFor_of_name pn_1) fun p e s m below meth c s₁ hx hby hml hown hnm hret hlk hZ hh hCH hSf X0 e0 => ?_
  have N0 := Fr.nil n0
  have hS0 : s.Since s.vm h0.size := own_since s _
  have hk0 : h0.size ≤ h0.size := Nat.le_refl _
  have CH0 : CHr Z own_EL s.vm h0 s.vm h0 := CHr.refl hCH
  rw [ef_2_6 m ra0 ra1]
  refine og s₁ (mkF m 4 #[vR ra0, vR ra1] [(.ref ra1), (.int (0 : Int32)), (.ref ra1), (.ref ra0)]) (fun _ k => XS.aloadN X0.here hx rfl (hb hby d2_0) rfl rfl (XS.aloadN X0.here hx rfl (hb hby d2_1) rfl rfl (XS.iconst X0.here hx rfl (hb hby d2_2) (XS.aloadN X0.here hx rfl (hb hby d2_3) rfl rfl k)))) ?_
  obtain ⟨cl1, Ar1, -, Sr1, Nr1, -, -⟩ := id V_ra1
  refine og s₁ (mkF m 5 #[vR ra0, vR ra1] [(.int (0 : Int32)), (.int (0 : Int32)), (.ref ra1), (.ref ra0)]) (fun t k => X0.arraylength hx (by rw [e0]; exact Ar1.1) (State.isArrayOf_alike hZ.alike Ar1.2.1) (g := (mkF m 4 #[vR ra0, vR ra1] [(.ref ra1), (.int (0 : Int32)), (.ref ra1), (.ref ra0)])) rfl rfl (hb hby d2_4) t (by rw [len_of Sr1 Nr1]; exact k)) ?_
  refine og s₁ (mkF m 6 #[vR ra0, vR ra1] [.null, (.int (0 : Int32)), (.int (0 : Int32)), (.ref ra1), (.ref ra0)]) (fun _ k => XS.aconstNull X0.here hx rfl (hb hby d2_5) k) ?_
  obtain ⟨_, _, ⟨T2, L2, k2, n2⟩, -, X2, hs2, hg2, ⟨Lc2, hQ2, l2, y2, z2, ch2⟩, st2⟩ := X0.specialBackS hx (y := y1) rfl hown (mvT hZ (own_w hw 12)) (mvT hZ (own_w hw 13)) (mvT hZ (own_w hw 15)) (by decide) (own_backSH (W := 0) (rm3_5 l Z a0 hw ra0 ra1 kc2 h0 n0 OLD E_ra0 F_coder_ra0 F_value_ra0 V_ra1 ge_ra0) hZ (own_w hw 15) (own_w hw 8) (lb rfl) (lb rfl) (own_EW hw) CH0.1 (allS ⟨E_ra0.lt, (hSf _ (List.mem_of_getElem? (i := 0) rfl))⟩ all0)) (g := (mkF m 6 #[vR ra0, vR ra1] [.null, (.int (0 : Int32)), (.int (0 : Int32)), (.ref ra1), (.ref ra0)])) rfl (by rw [hml]; rfl) (Steps.refl _) (a := ra0) (argsL := [(.ref ra1), (.int (0 : Int32)), (.int (0 : Int32)), .null]) (rest := []) (lenOf pd_1 rfl) rfl (lb rfl) (hb hby d2_6) (fun _ _ => ⟨rfl, e0, (lb rfl), (lb rfl)⟩)
  dsimp only [Pt.U, Pt.locs, Pt.cells, Pt.slots] at X2 l2 y2 z2 st2 hQ2 hs2 hg2 ch2
  subst l2 y2 z2
  replace X2 := own_reb X2
  obtain ⟨hZ2, hS2, hown2⟩ := own_after hZ hS0 e0 hk0 hs2 hg2 hown
  obtain ⟨o3, kc4, rfl, Nq2, K2, f5, f6, f7, f8⟩ := hQ2
  have N2 := Fr.app N0 Nq2
  have CH9 := CHr.trans CH0 ch2
  refine ot T2 (mkF m 9 #[vR ra0, vR ra1] []) st2 ?_
  have KEEP := ((Keep.refl h0 [ra0]).trans K2 (allS (Or.inl (List.mem_of_getElem? (i := 0) rfl)) all0))
  exact own_leaveW (s := s) (vm0 := T2.vm) X2 hS2 (Nat.le_refl _) hZ2 (own_EW hw) rfl CH9 hh hlk (v := none) (fun _ => rfl) (lb rfl) (lb rfl) (by exact ⟨o3, kc4, rfl, N2, KEEP, f5, f6, f7, f8⟩) (fun fs hr => X2.returnOut hx hret (hb hby d2_9) hr)
abbrev R10_10 : Room := { frames := 0, cells := 0, slots := 0, locals := 0 }
def Q10_10 (Z : State) (ra0 : Addr) (ra1 : Addr) (kc2 : ClassId) (G1 : Int32) (h0 : Heap) (n0 : Nat) (v : Option Value) (h : Heap) (L : List Loc) : Prop := (v = some (.int (1 : Int32)) ∧ Fr n0 L ∧ h = h0)
theorem rm10_10 (l : Launch) (Z : State) (a0 : Array Value) (hw : HW Z a0) (ra0 : Addr) (ra1 : Addr) (kc2 : ClassId) (G1 : Int32) (h0 : Heap) (n0 : Nat) (OLD : Old Z n0 h0) (E_ra0 : Exa Z h0 ra0 "java/lang/String") (F_coder_ra0 : Fld Z h0 ra0 "java/lang/String" "coder" "B" (.int (0 : Int32))) (F_value_ra0 : Fld Z h0 ra0 "java/lang/String" "value" "[B" (.ref ra1)) (V_ra1 : Arv Z h0 ra1 kc2 .byte (0 : Int32) [] (.int (0 : Int32))) (O2 : Sta Z Z.heap "java/lang/String" "COMPACT_STRINGS" "Z" (.int G1)) (P5 : ¬ (G1 = (0 : Int32))) :
    own_CN l Z y4 jdk_42_method_154_code 1 (some .boolean) [] R10_10 #[(.ref ra0)] h0 (Q10_10 Z ra0 ra1 kc2 G1 h0 n0) := by
  refine own_entryN (plainFor_of_name pn_1) fun p e s m below meth c s₁ hx hby hml hown hnm hret hlk hZ hh X0 e0 => ?_
  have N0 := Fr.nil n0
  rw [ef_10_10 m ra0]
  obtain ⟨T1, X1, e1, st1⟩ := getS2 X0 hx hZ hown (host := "") (Or.inl (own_w hw 46)) Via.refl e0 (O2.ext OLD.2) (g := (mkF m 0 #[vR ra0] [])) rfl (hb hby d10_0)
  refine og T1 (mkF m 3 #[vR ra0] [(.int G1)]) st1 ?_
  refine og T1 (mkF m 7 #[vR ra0] [(.ref ra0)]) (fun _ k => XS.ifNo X1.here hx rfl (hb hby d10_3) rfl ((if0 _ _).trans (feq P5).1) (XS.aloadN X1.here hx rfl (hb hby d10_6) rfl rfl k)) ?_
  obtain ⟨T2, X2, e2, st2⟩ := getF X1 hx hZ hown (host := "") (Or.inl (own_w hw 26)) Via.refl e1 F_coder_ra0 (g := (mkF m 7 #[vR ra0] [(.ref ra0)])) rfl rfl (hb hby d10_7)
  refine og T2 (mkF m 10 #[vR ra0] [(.int (0 : Int32))]) st2 ?_
  refine og T2 (mkF m 18 #[vR ra0] [(.int (1 : Int32))]) (fun _ k => XS.ifNo X2.here hx rfl (hb hby d10_10) rfl ((if0 _ _).trans (teq (by decide : (0 : Int32) = (0 : Int32))).2) (XS.iconst X2.here hx rfl (hb hby d10_13) (XS.goto X2.here hx rfl (pc0 := 14) (pc' := 18) rfl (hb hby d10_14) (by decide) (by decide) k))) ?_
  exact own_leaveN X2 hlk (v := some (.int (nar .boolean (1 : Int32)))) (fun h => by rw [hret] at h; cases h) (lb rfl) (lb rfl) (by rw [e2]; exact ⟨rfl, N0, rfl⟩) (fun fs hr => retN X2 hx (t := .boolean) hret (by simp) (hb hby d10_18) hr)
abbrev R12_12 : Room := { frames := 0, cells := 0, slots := 0, locals := 0 }
def Q12_12 (Z : State)  (h0 : Heap) (n0 : Nat) (v : Option Value) (h : Heap) (L : List Loc) : Prop := (v = some (.int (1 : Int32)) ∧ Fr n0 L ∧ h = h0)
theorem rm12_12 (l : Launch) (Z : State) (a0 : Array Value) (hw : HW Z a0)  (h0 : Heap) (n0 : Nat) (OLD : Old Z n0 h0) :
    own_CN l Z y5 jdk_43_method_4_code 1 (some .boolean) [] R12_12 #[(.int (46 : Int32))] h0 (Q12_12 Z  h0 n0) := by
  refine own_entryN (plainFor_of_name pn_2) fun p e s m below meth c s₁ hx hby hml hown hnm hret hlk hZ hh X0 e0 => ?_
  have N0 := Fr.nil n0
  rw [ef_12_12 m ]
  refine og s₁ (mkF m 16 #[vI (46 : Int32)] [(.int (1 : Int32))]) (fun _ k => XS.iloadN X0.here hx rfl (hb hby d12_0) rfl (XS.ifNo X0.here hx rfl (hb hby d12_1) rfl ((if0 _ _).trans (flt (by decide : ¬ ((46 : Int32) < (0 : Int32)))).1) (XS.iloadN X0.here hx rfl (hb hby d12_4) rfl (XS.sipush X0.here hx rfl (hb hby d12_5) (XS.icmpNo X0.here hx rfl (hb hby d12_8) rfl (flt (by decide : ¬ ((255 : Int32) < (46 : Int32)))).2.2.1 (XS.iconst X0.here hx rfl (hb hby d12_11) (XS.goto X0.here hx rfl (pc0 := 12) (pc' := 16) rfl (hb hby d12_12) (by decide) (by decide) k))))))) ?_
  exact own_leaveN X0 hlk (v := some (.int (nar .boolean (1 : Int32)))) (fun h => by rw [hret] at h; cases h) (lb rfl) (lb rfl) (by rw [e0]; exact ⟨rfl, N0, rfl⟩) (fun fs hr => retN X0 hx (t := .boolean) hret (by simp) (hb hby d12_16) hr)
abbrev R13_13 : Room := { frames := 0, cells := 0, slots := 0, locals := 0 }
def Q13_13 (Z : State)  (h0 : Heap) (n0 : Nat) (v : Option Value) (h : Heap) (L : List Loc) : Prop := (v = some (.int (-1 : Int32)) ∧ Fr n0 L ∧ h = h0)
theorem rm13_13 (l : Launch) (Z : State) (a0 : Array Value) (hw : HW Z a0)  (h0 : Heap) (n0 : Nat) (OLD : Old Z n0 h0) :
    own_CN l Z y6 jdk_29_method_69_code 2 (some .int) [] R13_13 #[(.int (-1 : Int32)), (.int (-1 : Int32))] h0 (Q13_13 Z  h0 n0) := by
  refine own_entryN (Jvm.Free.JP.mathPlain rfl (by decide +kernel)) fun p e s m below meth c s₁ hx hby hml hown hnm hret hlk hZ hh X0 e0 => ?_
  have N0 := Fr.nil n0
  rw [ef_13_13 m ]
  refine og s₁ (mkF m 10 #[vI (-1 : Int32), vI (-1 : Int32)] [(.int (-1 : Int32))]) (fun _ k => XS.iloadN X0.here hx rfl (hb hby d13_0) rfl (XS.iloadN X0.here hx rfl (hb hby d13_1) rfl (XS.icmpNo X0.here hx rfl (hb hby d13_2) rfl (flt (by decide : ¬ ((-1 : Int32) < (-1 : Int32)))).2.2.1 (XS.iloadN X0.here hx rfl (hb hby d13_5) rfl (XS.goto X0.here hx rfl (pc0 := 6) (pc' := 10) rfl (hb hby d13_6) (by decide) (by decide) k))))) ?_
  exact own_leaveN X0 hlk (v := some (.int (-1 : Int32))) (fun h => by rw [hret] at h; cases h) (lb rfl) (lb rfl) (by rw [e0]; exact ⟨rfl, N0, rfl⟩) (fun fs hr => retI X0 hx hret (hb hby d13_10) hr)
abbrev R11_11 : Room := { frames := 1, cells := 0, slots := 0, locals := 13 }
def Q11_11 (Z : State) (ra0 : Addr) (kc1 : ClassId) (h0 : Heap) (n0 : Nat) (v : Option Value) (h : Heap) (L : List Loc) : Prop := (v = some (.int (-1 : Int32)) ∧ Fr n0 L ∧ h = h0)
theorem rm11_11 (l : Launch) (Z : State) (a0 : Array Value) (hw : HW Z a0) (ra0 : Addr) (kc1 : ClassId) (h0 : Heap) (n0 : Nat) (OLD : Old Z n0 h0) (V_ra0 : Arv Z h0 ra0 kc1 .byte (0 : Int32) [] (.int (0 : Int32))) :
    own_CN l Z y7 jdk_43_method_27_code 4 (some .int) [] R11_11 #[(.ref ra0), (.int (46 : Int32)), (.int (-1 : Int32))] h0 (Q11_11 Z ra0 kc1 h0 n0) := by
  refine own_entryN (plainFor_of_name pn_2) fun p e s m below meth c s₁ hx hby hml hown hnm hret hlk hZ hh X0 e0 => ?_
  have N0 := Fr.nil n0
  rw [ef_11_11 m ra0]
  refine og s₁ (mkF m 1 #[vR ra0, vI (46 : Int32), vI (-1 : Int32), vU] [(.int (46 : Int32))]) (fun _ k => XS.iloadN X0.here hx rfl (hb hby d11_0) rfl k) ?_
  obtain ⟨_, _, ⟨T1, L1, k1, n1⟩, -, X1, ⟨Lc1, hQ1, l1, y1, z1⟩, st1⟩ := Jvm.LawKit.callS X0 hx (y := y5) hown (mvT hZ (own_w hw 61)) (mvT hZ (own_w hw 62)) (mvT hZ (own_w hw 59)) (mvT hZ (own_w hw 63)) (by decide) (backOf (W := 0) (rm12_12 l Z a0 hw  h0 n0 OLD ) hZ (own_w hw 63) (own_w hw 59) (lb rfl) (lb rfl)) (g := (mkF m 1 #[vR ra0, vI (46 : Int32), vI (-1 : Int32), vU] [(.int (46 : Int32))])) rfl (by rw [hml]; rfl) (argsL := [(.int (46 : Int32))]) (rest := []) (lenOf pd_5 rfl) rfl (lb rfl) (hb hby d11_1) (fun _ _ => ⟨rfl, e0, (lb rfl), (lb rfl)⟩)
  dsimp only [Pt.U, Pt.locs, Pt.cells, Pt.slots] at X1 l1 y1 z1 st1 hQ1
  subst l1 y1 z1
  obtain ⟨rfl, Nq1, eq1⟩ := hQ1
  have N1 := Fr.app N0 Nq1
  refine og T1 (mkF m 4 #[vR ra0, vI (46 : Int32), vI (-1 : Int32), vU] [(.int (1 : Int32))]) st1 ?_
  refine og T1 (mkF m 11 #[vR ra0, vI (46 : Int32), vI (-1 : Int32), vU] [(.ref ra0), (.int (-1 : Int32))]) (fun _ k => XS.ifYes X1.here hx rfl (pc0 := 4) (pc' := 9) rfl (hb hby d11_4) rfl ((if0 _ _).trans (feq (by decide : ¬ ((1 : Int32) = (0 : Int32)))).2) (by decide) (by decide) (XS.iloadN X1.here hx rfl (hb hby d11_9) rfl (XS.aloadN X1.here hx rfl (hb hby d11_10) rfl rfl k))) ?_
  obtain ⟨cl2, Ar2, -, Sr2, Nr2, -, -⟩ := id V_ra0
  refine og T1 (mkF m 12 #[vR ra0, vI (46 : Int32), vI (-1 : Int32), vU] [(.int (0 : Int32)), (.int (-1 : Int32))]) (fun t k => X1.arraylength hx (by rw [eq1]; exact Ar2.1) (State.isArrayOf_alike hZ.alike Ar2.2.1) (g := (mkF m 11 #[vR ra0, vI (46 : Int32), vI (-1 : Int32), vU] [(.ref ra0), (.int (-1 : Int32))])) rfl rfl (hb hby d11_11) t (by rw [len_of Sr2 Nr2]; exact k)) ?_
  refine og T1 (mkF m 14 #[vR ra0, vI (46 : Int32), vI (-1 : Int32), vU] [(.int (-1 : Int32)), (.int (-1 : Int32))]) (fun _ k => XS.iconst X1.here hx rfl (hb hby d11_12) (XS.isub X1.here hx rfl (hb hby d11_13) rfl k)) ?_
  obtain ⟨_, _, ⟨T3, L3, k3, n3⟩, -, X3, ⟨Lc3, hQ3, l3, y3, z3⟩, st3⟩ := Jvm.LawKit.callS X1 hx (y := y6) hown (mvT hZ (own_w hw 64)) (mvT hZ (own_w hw 65)) (mvT hZ (own_w hw 66)) (mvT hZ (own_w hw 67)) (by decide) (backOf (W := 0) (rm13_13 l Z a0 hw  h0 n0 OLD ) hZ (own_w hw 67) (own_w hw 66) (lb rfl) (lb rfl)) (g := (mkF m 14 #[vR ra0, vI (46 : Int32), vI (-1 : Int32), vU] [(.int (-1 : Int32)), (.int (-1 : Int32))])) rfl (by rw [hml]; rfl) (argsL := [(.int (-1 : Int32)), (.int (-1 : Int32))]) (rest := []) (lenOf pd_6 rfl) rfl (lb rfl) (hb hby d11_14) (fun _ _ => ⟨rfl, eq1, (lb rfl), (lb rfl)⟩)
  dsimp only [Pt.U, Pt.locs, Pt.cells, Pt.slots] at X3 l3 y3 z3 st3 hQ3
  subst l3 y3 z3
  obtain ⟨rfl, Nq3, eq3⟩ := hQ3
  have N3 := Fr.app N1 Nq3
  refine og T3 (mkF m 17 #[vR ra0, vI (46 : Int32), vI (-1 : Int32), vU] [(.int (-1 : Int32))]) st3 ?_
  refine og T3 (mkF m 39 #[vR ra0, vI (46 : Int32), vI (-1 : Int32), vI (-1 : Int32)] [(.int (-1 : Int32))]) (fun _ k => XS.istoreN X3.here hx rfl (hb hby d11_17) rfl (l' := #[vR ra0, vI (46 : Int32), vI (-1 : Int32), vI (-1 : Int32)]) rfl (XS.iloadN X3.here hx rfl (hb hby d11_18) rfl (XS.ifYes X3.here hx rfl (pc0 := 19) (pc' := 38) rfl (hb hby d11_19) rfl ((if0 _ _).trans (tlt (by decide : (-1 : Int32) < (0 : Int32))).1) (by decide) (by decide) (XS.iconst X3.here hx rfl (hb hby d11_38) k)))) ?_
  exact own_leaveN X3 hlk (v := some (.int (-1 : Int32))) (fun h => by rw [hret] at h; cases h) (lb rfl) (lb rfl) (by rw [eq3]; exact ⟨rfl, N3, rfl⟩) (fun fs hr => retI X3 hx hret (hb hby d11_39) hr)
abbrev R9_9 : Room := { frames := 2, cells := 0, slots := 0, locals := 28 }
def Q9_9 (Z : State) (ra0 : Addr) (ra1 : Addr) (kc2 : ClassId) (G1 : Int32) (h0 : Heap) (n0 : Nat) (v : Option Value) (h : Heap) (L : List Loc) : Prop := (v = some (.int (-1 : Int32)) ∧ Fr n0 L ∧ h = h0)
theorem rm9_9 (l : Launch) (Z : State) (a0 : Array Value) (hw : HW Z a0) (ra0 : Addr) (ra1 : Addr) (kc2 : ClassId) (G1 : Int32) (h0 : Heap) (n0 : Nat) (OLD : Old Z n0 h0) (E_ra0 : Exa Z h0 ra0 "java/lang/String") (F_coder_ra0 : Fld Z h0 ra0 "java/lang/String" "coder" "B" (.int (0 : Int32))) (F_value_ra0 : Fld Z h0 ra0 "java/lang/String" "value" "[B" (.ref ra1)) (V_ra1 : Arv Z h0 ra1 kc2 .byte (0 : Int32) [] (.int (0 : Int32))) (O2 : Sta Z Z.heap "java/lang/String" "COMPACT_STRINGS" "Z" (.int G1)) (P5 : ¬ (G1 = (0 : Int32))) :
    own_CN l Z y8 jdk_42_method_83_code 3 (some .int) [] R9_9 #[(.ref ra0), (.int (46 : Int32)), (.int (-1 : Int32))] h0 (Q9_9 Z ra0 ra1 kc2 G1 h0 n0) := by
  refine own_entryN (plainFor_of_name pn_1) fun p e s m below meth c s₁ hx hby hml hown hnm hret hlk hZ hh X0 e0 => ?_
  have N0 := Fr.nil n0
  rw [ef_9_9 m ra0]
  refine og s₁ (mkF m 1 #[vR ra0, vI (46 : Int32), vI (-1 : Int32)] [(.ref ra0)]) (fun _ k => XS.aloadN X0.here hx rfl (hb hby d9_0) rfl rfl k) ?_
  obtain ⟨cq1, kq1, q1a, q1b, q1c⟩ := isOf hZ e0 E_ra0
  obtain ⟨_, _, ⟨T1, L1, k1, n1⟩, -, X1, ⟨Lc1, hQ1, l1, y1, z1⟩, st1⟩ := X0.virtualBack hx (y := y4) (z := y4) hown (mvT hZ (own_w hw 52)) (mvT hZ (own_w hw 53)) (notFace_of_selects (args := #[]) (mvT hZ (own_w hw 55))) (mvT hZ (own_w hw 55)) (mvT hZ (own_w hw 54)) (by decide) (backOf (W := 0) (rm10_10 l Z a0 hw ra0 ra1 kc2 G1 h0 n0 OLD E_ra0 F_coder_ra0 F_value_ra0 V_ra1 O2 P5) hZ (own_w hw 56) (own_w hw 8) (lb rfl) (lb rfl)) q1a q1c (g := (mkF m 1 #[vR ra0, vI (46 : Int32), vI (-1 : Int32)] [(.ref ra0)])) rfl (by rw [hml]; rfl) (Steps.refl _) (argsL := []) (rest := []) (lenOf pd_4 rfl) rfl (lb rfl) (hb hby d9_1) (fun _ _ => ⟨rfl, e0, (lb rfl), (lb rfl)⟩)
  dsimp only [Pt.U, Pt.locs, Pt.cells, Pt.slots] at X1 l1 y1 z1 st1 hQ1
  subst l1 y1 z1
  obtain ⟨rfl, Nq1, eq1⟩ := hQ1
  have N1 := Fr.app N0 Nq1
  refine ot T1 (mkF m 4 #[vR ra0, vI (46 : Int32), vI (-1 : Int32)] [(.int (1 : Int32))]) st1 ?_
  refine og T1 (mkF m 8 #[vR ra0, vI (46 : Int32), vI (-1 : Int32)] [(.ref ra0)]) (fun _ k => XS.ifNo X1.here hx rfl (hb hby d9_4) rfl ((if0 _ _).trans (feq (by decide : ¬ ((1 : Int32) = (0 : Int32)))).1) (XS.aloadN X1.here hx rfl (hb hby d9_7) rfl rfl k)) ?_
  obtain ⟨T2, X2, e2, st2⟩ := getF X1 hx hZ hown (host := "") (Or.inl (own_w hw 25)) Via.refl eq1 F_value_ra0 (g := (mkF m 8 #[vR ra0, vI (46 : Int32), vI (-1 : Int32)] [(.ref ra0)])) rfl rfl (hb hby d9_8)
  refine og T2 (mkF m 11 #[vR ra0, vI (46 : Int32), vI (-1 : Int32)] [(.ref ra1)]) st2 ?_
  refine og T2 (mkF m 13 #[vR ra0, vI (46 : Int32), vI (-1 : Int32)] [(.int (-1 : Int32)), (.int (46 : Int32)), (.ref ra1)]) (fun _ k => XS.iloadN X2.here hx rfl (hb hby d9_11) rfl (XS.iloadN X2.here hx rfl (hb hby d9_12) rfl k)) ?_
  obtain ⟨_, _, ⟨T3, L3, k3, n3⟩, -, X3, ⟨Lc3, hQ3, l3, y3, z3⟩, st3⟩ := Jvm.LawKit.callS X2 hx (y := y7) hown (mvT hZ (own_w hw 57)) (mvT hZ (own_w hw 58)) (mvT hZ (own_w hw 59)) (mvT hZ (own_w hw 60)) (by decide) (backOf (W := 0) (rm11_11 l Z a0 hw ra1 kc2 h0 n0 OLD V_ra1) hZ (own_w hw 60) (own_w hw 59) (lb rfl) (lb rfl)) (g := (mkF m 13 #[vR ra0, vI (46 : Int32), vI (-1 : Int32)] [(.int (-1 : Int32)), (.int (46 : Int32)), (.ref ra1)])) rfl (by rw [hml]; rfl) (argsL := [(.ref ra1), (.int (46 : Int32)), (.int (-1 : Int32))]) (rest := []) (lenOf pd_7 rfl) rfl (lb rfl) (hb hby d9_13) (fun _ _ => ⟨rfl, e2, (lb rfl), (lb rfl)⟩)
  dsimp only [Pt.U, Pt.locs, Pt.cells, Pt.slots] at X3 l3 y3 z3 st3 hQ3
  subst l3 y3 z3
  obtain ⟨rfl, Nq3, eq3⟩ := hQ3
  have N3 := Fr.app N1 Nq3
  refine og T3 (mkF m 16 #[vR ra0, vI (46 : Int32), vI (-1 : Int32)] [(.int (-1 : Int32))]) st3 ?_
  refine og T3 (mkF m 28 #[vR ra0, vI (46 : Int32), vI (-1 : Int32)] [(.int (-1 : Int32))]) (fun _ k => XS.goto X3.here hx rfl (pc0 := 16) (pc' := 28) rfl (hb hby d9_16) (by decide) (by decide) k) ?_
  exact own_leaveN X3 hlk (v := some (.int (-1 : Int32))) (fun h => by rw [hret] at h; cases h) (lb rfl) (lb rfl) (by rw [eq3]; exact ⟨rfl, N3, rfl⟩) (fun fs hr => retI X3 hx hret (hb hby d9_28) hr)
abbrev R6_8 : Room := { frames := 3, cells := 0, slots := 0, locals := 42 }
def Q6_8 (Z : State) (ra0 : Addr) (ra1 : Addr) (kc2 : ClassId) (G1 : Int32) (h0 : Heap) (n0 : Nat) (v : Option Value) (h : Heap) (L : List Loc) : Prop := (v = some (.int (-1 : Int32)) ∧ Fr n0 L ∧ h = h0)
theorem rm6_8 (l : Launch) (Z : State) (a0 : Array Value) (hw : HW Z a0) (ra0 : Addr) (ra1 : Addr) (kc2 : ClassId) (G1 : Int32) (h0 : Heap) (n0 : Nat) (OLD : Old Z n0 h0) (E_ra0 : Exa Z h0 ra0 "java/lang/String") (F_coder_ra0 : Fld Z h0 ra0 "java/lang/String" "coder" "B" (.int (0 : Int32))) (F_value_ra0 : Fld Z h0 ra0 "java/lang/String" "value" "[B" (.ref ra1)) (V_ra1 : Arv Z h0 ra1 kc2 .byte (0 : Int32) [] (.int (0 : Int32))) (O2 : Sta Z Z.heap "java/lang/String" "COMPACT_STRINGS" "Z" (.int G1)) (P5 : ¬ (G1 = (0 : Int32))) :
    own_CN l Z y9 jdk_42_method_82_code 2 (some .int) [] R6_8 #[(.ref ra0), (.int (46 : Int32))] h0 (Q6_8 Z ra0 ra1 kc2 G1 h0 n0) := by
  refine own_entryN (plainFor_of_name pn_1) fun p e s m below meth c s₁ hx hby hml hown hnm hret hlk hZ hh X0 e0 => ?_
  have N0 := Fr.nil n0
  rw [ef_6_8 m ra0]
  refine og s₁ (mkF m 3 #[vR ra0, vI (46 : Int32)] [(.ref ra0), (.int (46 : Int32)), (.ref ra0)]) (fun _ k => XS.aloadN X0.here hx rfl (hb hby d6_0) rfl rfl (XS.iloadN X0.here hx rfl (hb hby d6_1) rfl (XS.aloadN X0.here hx rfl (hb hby d6_2) rfl rfl k))) ?_
  have hp1 : ∀ c ∈ ([] : List Int32), ¬ c < 0 ∧ ¬ (255 : Int32) < c := by
    intro c hc
    cases hc
  obtain ⟨cq2, kq2, q2a, q2b, q2c⟩ := isOf hZ e0 E_ra0
  obtain ⟨_, _, ⟨T2, L2, k2, n2⟩, -, X2, ⟨Lc2, hQ2, l2, y2, z2⟩, st2⟩ := X0.virtualBack hx (y := y3) (z := y3) hown (mvT hZ (own_w hw 36)) (mvT hZ (own_w hw 37)) (notFace_of_selects (args := #[]) (mvT hZ (own_w hw 39))) (mvT hZ (own_w hw 39)) (mvT hZ (own_w hw 38)) (by decide) (StrChars.Road.lenW (W := 2) hZ (own_hln hw) (kI := 4) (own_w hw 7) (cs := ([] : List Int32)) E_ra0 F_value_ra0 F_coder_ra0 V_ra1 (StrChars.Road.codOf rfl (fun c hc => (hp1 c hc).2)) (own_up _ hp1) (O2.ext OLD.2) P5 (lb rfl) (lb rfl) (lb rfl)) q2a q2c (g := (mkF m 3 #[vR ra0, vI (46 : Int32)] [(.ref ra0), (.int (46 : Int32)), (.ref ra0)])) rfl (by rw [hml]; rfl) (Steps.refl _) (argsL := []) (rest := [(.int (46 : Int32)), (.ref ra0)]) (lenOf pd_3 rfl) rfl (lb rfl) (hb hby d6_3) (fun _ _ => ⟨rfl, e0, (lb rfl), (lb rfl)⟩)
  dsimp only [Pt.U, Pt.locs, Pt.cells, Pt.slots] at X2 l2 y2 z2 st2 hQ2
  subst l2 y2 z2
  obtain ⟨rfl, rfl, eq2⟩ := hQ2
  have N2 := Fr.app N0 (Fr.nil n0)
  refine ot T2 (mkF m 6 #[vR ra0, vI (46 : Int32)] [(.int (0 : Int32)), (.int (46 : Int32)), (.ref ra0)]) st2 ?_
  refine og T2 (mkF m 8 #[vR ra0, vI (46 : Int32)] [(.int (-1 : Int32)), (.int (46 : Int32)), (.ref ra0)]) (fun _ k => XS.iconst X2.here hx rfl (hb hby d6_6) (XS.isub X2.here hx rfl (hb hby d6_7) rfl k)) ?_
  obtain ⟨cq3, kq3, q3a, q3b, q3c⟩ := isOf hZ eq2 E_ra0
  obtain ⟨_, _, ⟨T3, L3, k3, n3⟩, -, X3, ⟨Lc3, hQ3, l3, y3, z3⟩, st3⟩ := X2.virtualBack hx (y := y8) (z := y8) hown (mvT hZ (own_w hw 47)) (mvT hZ (own_w hw 48)) (notFace_of_selects (args := #[]) (mvT hZ (own_w hw 50))) (mvT hZ (own_w hw 50)) (mvT hZ (own_w hw 49)) (by decide) (backOf (W := 0) (rm9_9 l Z a0 hw ra0 ra1 kc2 G1 h0 n0 OLD E_ra0 F_coder_ra0 F_value_ra0 V_ra1 O2 P5) hZ (own_w hw 51) (own_w hw 8) (lb rfl) (lb rfl)) q3a q3c (g := (mkF m 8 #[vR ra0, vI (46 : Int32)] [(.int (-1 : Int32)), (.int (46 : Int32)), (.ref ra0)])) rfl (by rw [hml]; rfl) (Steps.refl _) (argsL := [(.int (46 : Int32)), (.int (-1 : Int32))]) (rest := []) (lenOf pd_6 rfl) rfl (lb rfl) (hb hby d6_8) (fun _ _ => ⟨rfl, eq2, (lb rfl), (lb rfl)⟩)
  dsimp only [Pt.U, Pt.locs, Pt.cells, Pt.slots] at X3 l3 y3 z3 st3 hQ3
  subst l3 y3 z3
  obtain ⟨rfl, Nq3, eq3⟩ := hQ3
  have N3 := Fr.app N2 Nq3
  refine ot T3 (mkF m 11 #[vR ra0, vI (46 : Int32)] [(.int (-1 : Int32))]) st3 ?_
  exact own_leaveN X3 hlk (v := some (.int (-1 : Int32))) (fun h => by rw [hret] at h; cases h) (lb rfl) (lb rfl) (by rw [eq3]; exact ⟨rfl, N3, rfl⟩) (fun fs hr => retI X3 hx hret (hb hby d6_11) hr)
abbrev R16_16 : Room := { frames := 0, cells := 0, slots := 0, locals := 0 }
def Q16_16 (Z : State) (cv0 : Value) (h0 : Heap) (n0 : Nat) (v : Option Value) (h : Heap) (L : List Loc) : Prop := (v = some (.int (0 : Int32)) ∧ Fr n0 L ∧ h = h0)
theorem rm16_16 (l : Launch) (Z : State) (a0 : Array Value) (hw : HW Z a0) (cv0 : Value) (h0 : Heap) (n0 : Nat) (OLD : Old Z n0 h0) (rf_cv0 : cv0.isRef = true) :
    own_CN l Z y10 jdk_41_method_12_code 4 (some .int) [] R16_16 #[(.int (0 : Int32)), (.int (0 : Int32)), (.int (0 : Int32)), cv0] h0 (Q16_16 Z cv0 h0 n0) := by
  refine own_entryN (plainFor_of_name pn_3) fun p e s m below meth c s₁ hx hby hml hown hnm hret hlk hZ hh X0 e0 => ?_
  have N0 := Fr.nil n0
  rw [ef_16_16 m cv0 rf_cv0]
  refine og s₁ (mkF m 23 #[vI (0 : Int32), vI (0 : Int32), vI (0 : Int32), .val cv0] [(.int (0 : Int32))]) (fun _ k => XS.iloadN X0.here hx rfl (hb hby d16_0) rfl (XS.ifNo X0.here hx rfl (hb hby d16_1) rfl ((if0 _ _).trans (flt (by decide : ¬ ((0 : Int32) < (0 : Int32)))).1) (XS.iloadN X0.here hx rfl (hb hby d16_4) rfl (XS.iloadN X0.here hx rfl (hb hby d16_5) rfl (XS.icmpNo X0.here hx rfl (hb hby d16_6) rfl (flt (by decide : ¬ ((0 : Int32) < (0 : Int32)))).2.2.1 (XS.iloadN X0.here hx rfl (hb hby d16_9) rfl (XS.iloadN X0.here hx rfl (hb hby d16_10) rfl (XS.icmpYes X0.here hx rfl (pc0 := 11) (pc' := 22) rfl (hb hby d16_11) rfl (flt (by decide : ¬ ((0 : Int32) < (0 : Int32)))).2.2.2 (by decide) (by decide) (XS.iloadN X0.here hx rfl (hb hby d16_22) rfl k))))))))) ?_
  exact own_leaveN X0 hlk (v := some (.int (0 : Int32))) (fun h => by rw [hret] at h; cases h) (lb rfl) (lb rfl) (by rw [e0]; exact ⟨rfl, N0, rfl⟩) (fun fs hr => retI X0 hx hret (hb hby d16_23) hr)
abbrev R15_15 : Room := { frames := 1, cells := 0, slots := 0, locals := 15 }
def Q15_15 (Z : State) (G3 : Value) (h0 : Heap) (n0 : Nat) (v : Option Value) (h : Heap) (L : List Loc) : Prop := (v = none ∧ Fr n0 L ∧ h = h0)
theorem rm15_15 (l : Launch) (Z : State) (a0 : Array Value) (hw : HW Z a0) (G3 : Value) (h0 : Heap) (n0 : Nat) (OLD : Old Z n0 h0) (O4 : Sta Z Z.heap "jdk/internal/util/Preconditions" "SIOOBE_FORMATTER" "Ljava/util/function/BiFunction;" G3) (rG3 : G3.isRef = true) :
    own_CN l Z y11 jdk_42_method_158_code 3 none [] R15_15 #[(.int (0 : Int32)), (.int (0 : Int32)), (.int (0 : Int32))] h0 (Q15_15 Z G3 h0 n0) := by
  refine own_entryN (plainFor_of_name pn_1) fun p e s m below meth c s₁ hx hby hml hown hnm hret hlk hZ hh X0 e0 => ?_
  have N0 := Fr.nil n0
  rw [ef_15_15 m ]
  refine og s₁ (mkF m 3 #[vI (0 : Int32), vI (0 : Int32), vI (0 : Int32)] [(.int (0 : Int32)), (.int (0 : Int32)), (.int (0 : Int32))]) (fun _ k => XS.iloadN X0.here hx rfl (hb hby d15_0) rfl (XS.iloadN X0.here hx rfl (hb hby d15_1) rfl (XS.iloadN X0.here hx rfl (hb hby d15_2) rfl k))) ?_
  obtain ⟨T1, X1, e1, st1⟩ := getS2 X0 hx hZ hown (host := "") (Or.inl (own_w hw 76)) Via.refl e0 (O4.ext OLD.2) (g := (mkF m 3 #[vI (0 : Int32), vI (0 : Int32), vI (0 : Int32)] [(.int (0 : Int32)), (.int (0 : Int32)), (.int (0 : Int32))])) rfl (hb hby d15_3)
  refine og T1 (mkF m 6 #[vI (0 : Int32), vI (0 : Int32), vI (0 : Int32)] [G3, (.int (0 : Int32)), (.int (0 : Int32)), (.int (0 : Int32))]) st1 ?_
  obtain ⟨_, _, ⟨T2, L2, k2, n2⟩, -, X2, ⟨Lc2, hQ2, l2, y2, z2⟩, st2⟩ := Jvm.LawKit.callS X1 hx (y := y10) hown (mvT hZ (own_w hw 78)) (mvT hZ (own_w hw 79)) (mvT hZ (own_w hw 77)) (mvT hZ (own_w hw 80)) (by decide) (backOf (W := 0) (rm16_16 l Z a0 hw G3 h0 n0 OLD rG3) hZ (own_w hw 80) (own_w hw 77) (lb rfl) (lb rfl)) (g := (mkF m 6 #[vI (0 : Int32), vI (0 : Int32), vI (0 : Int32)] [G3, (.int (0 : Int32)), (.int (0 : Int32)), (.int (0 : Int32))])) rfl (by rw [hml]; rfl) (argsL := [(.int (0 : Int32)), (.int (0 : Int32)), (.int (0 : Int32)), G3]) (rest := []) (lenOf pd_9 rfl) rfl (lb rfl) (hb hby d15_6) (fun _ _ => ⟨rfl, e1, (lb rfl), (lb rfl)⟩)
  dsimp only [Pt.U, Pt.locs, Pt.cells, Pt.slots] at X2 l2 y2 z2 st2 hQ2
  subst l2 y2 z2
  obtain ⟨rfl, Nq2, eq2⟩ := hQ2
  have N2 := Fr.app N0 Nq2
  refine og T2 (mkF m 9 #[vI (0 : Int32), vI (0 : Int32), vI (0 : Int32)] [(.int (0 : Int32))]) st2 ?_
  refine og T2 (mkF m 10 #[vI (0 : Int32), vI (0 : Int32), vI (0 : Int32)] []) (fun _ k => XS.pop X2.here hx rfl (hb hby d15_9) rfl rfl k) ?_
  exact own_leaveN X2 hlk (v := none) (fun _ => rfl) (lb rfl) (lb rfl) (by rw [eq2]; exact ⟨rfl, N2, rfl⟩) (fun fs hr => X2.returnOut hx hret (hb hby d15_10) hr)
abbrev R14_14 : Room := { frames := 2, cells := 0, slots := 0, locals := 29 }
def Q14_14 (Z : State) (ra0 : Addr) (ra1 : Addr) (kc2 : ClassId) (G1 : Int32) (G3 : Value) (h0 : Heap) (n0 : Nat) (v : Option Value) (h : Heap) (L : List Loc) : Prop := (v = some (.ref ra0) ∧ Fr n0 L ∧ h = h0)
theorem rm14_14 (l : Launch) (Z : State) (a0 : Array Value) (hw : HW Z a0) (ra0 : Addr) (ra1 : Addr) (kc2 : ClassId) (G1 : Int32) (G3 : Value) (h0 : Heap) (n0 : Nat) (OLD : Old Z n0 h0) (E_ra0 : Exa Z h0 ra0 "java/lang/String") (F_coder_ra0 : Fld Z h0 ra0 "java/lang/String" "coder" "B" (.int (0 : Int32))) (F_value_ra0 : Fld Z h0 ra0 "java/lang/String" "value" "[B" (.ref ra1)) (V_ra1 : Arv Z h0 ra1 kc2 .byte (0 : Int32) [] (.int (0 : Int32))) (O2 : Sta Z Z.heap "java/lang/String" "COMPACT_STRINGS" "Z" (.int G1)) (P5 : ¬ (G1 = (0 : Int32))) (O4 : Sta Z Z.heap "jdk/internal/util/Preconditions" "SIOOBE_FORMATTER" "Ljava/util/function/BiFunction;" G3) (rG3 : G3.isRef = true) :
    own_CN l Z y12 jdk_42_method_92_code 5 (some (.object "java/lang/String")) [] R14_14 #[(.ref ra0), (.int (0 : Int32)), (.int (0 : Int32))] h0 (Q14_14 Z ra0 ra1 kc2 G1 G3 h0 n0) := by
  refine own_entryN (plainFor_of_name pn_1) fun p e s m below meth c s₁ hx hby hml hown hnm hret hlk hZ hh X0 e0 => ?_
  have N0 := Fr.nil n0
  rw [ef_14_14 m ra0]
  refine og s₁ (mkF m 1 #[vR ra0, vI (0 : Int32), vI (0 : Int32), vU, vU] [(.ref ra0)]) (fun _ k => XS.aloadN X0.here hx rfl (hb hby d14_0) rfl rfl k) ?_
  have hp1 : ∀ c ∈ ([] : List Int32), ¬ c < 0 ∧ ¬ (255 : Int32) < c := by
    intro c hc
    cases hc
  obtain ⟨cq2, kq2, q2a, q2b, q2c⟩ := isOf hZ e0 E_ra0
  obtain ⟨_, _, ⟨T2, L2, k2, n2⟩, -, X2, ⟨Lc2, hQ2, l2, y2, z2⟩, st2⟩ := X0.virtualBack hx (y := y3) (z := y3) hown (mvT hZ (own_w hw 36)) (mvT hZ (own_w hw 37)) (notFace_of_selects (args := #[]) (mvT hZ (own_w hw 39))) (mvT hZ (own_w hw 39)) (mvT hZ (own_w hw 38)) (by decide) (StrChars.Road.lenW (W := 0) hZ (own_hln hw) (kI := 4) (own_w hw 7) (cs := ([] : List Int32)) E_ra0 F_value_ra0 F_coder_ra0 V_ra1 (StrChars.Road.codOf rfl (fun c hc => (hp1 c hc).2)) (own_up _ hp1) (O2.ext OLD.2) P5 (lb rfl) (lb rfl) (lb rfl)) q2a q2c (g := (mkF m 1 #[vR ra0, vI (0 : Int32), vI (0 : Int32), vU, vU] [(.ref ra0)])) rfl (by rw [hml]; rfl) (Steps.refl _) (argsL := []) (rest := []) (lenOf pd_3 rfl) rfl (lb rfl) (hb hby d14_1) (fun _ _ => ⟨rfl, e0, (lb rfl), (lb rfl)⟩)
  dsimp only [Pt.U, Pt.locs, Pt.cells, Pt.slots] at X2 l2 y2 z2 st2 hQ2
  subst l2 y2 z2
  obtain ⟨rfl, rfl, eq2⟩ := hQ2
  have N2 := Fr.app N0 (Fr.nil n0)
  refine ot T2 (mkF m 4 #[vR ra0, vI (0 : Int32), vI (0 : Int32), vU, vU] [(.int (0 : Int32))]) st2 ?_
  refine og T2 (mkF m 8 #[vR ra0, vI (0 : Int32), vI (0 : Int32), vI (0 : Int32), vU] [(.int (0 : Int32)), (.int (0 : Int32)), (.int (0 : Int32))]) (fun _ k => XS.istoreN X2.here hx rfl (hb hby d14_4) rfl (l' := #[vR ra0, vI (0 : Int32), vI (0 : Int32), vI (0 : Int32), vU]) rfl (XS.iloadN X2.here hx rfl (hb hby d14_5) rfl (XS.iloadN X2.here hx rfl (hb hby d14_6) rfl (XS.iloadN X2.here hx rfl (hb hby d14_7) rfl k)))) ?_
  obtain ⟨_, _, ⟨T3, L3, k3, n3⟩, -, X3, ⟨Lc3, hQ3, l3, y3, z3⟩, st3⟩ := Jvm.LawKit.callS X2 hx (y := y11) hown (mvT hZ (own_w hw 73)) (mvT hZ (own_w hw 74)) (mvT hZ (own_w hw 8)) (mvT hZ (own_w hw 75)) (by decide) (backOf (W := 0) (rm15_15 l Z a0 hw G3 h0 n0 OLD O4 rG3) hZ (own_w hw 75) (own_w hw 8) (lb rfl) (lb rfl)) (g := (mkF m 8 #[vR ra0, vI (0 : Int32), vI (0 : Int32), vI (0 : Int32), vU] [(.int (0 : Int32)), (.int (0 : Int32)), (.int (0 : Int32))])) rfl (by rw [hml]; rfl) (argsL := [(.int (0 : Int32)), (.int (0 : Int32)), (.int (0 : Int32))]) (rest := []) (lenOf pd_10 rfl) rfl (lb rfl) (hb hby d14_8) (fun _ _ => ⟨rfl, eq2, (lb rfl), (lb rfl)⟩)
  dsimp only [Pt.U, Pt.locs, Pt.cells, Pt.slots] at X3 l3 y3 z3 st3 hQ3
  subst l3 y3 z3
  obtain ⟨rfl, Nq3, eq3⟩ := hQ3
  have N3 := Fr.app N2 Nq3
  refine og T3 (mkF m 11 #[vR ra0, vI (0 : Int32), vI (0 : Int32), vI (0 : Int32), vU] []) st3 ?_
  refine og T3 (mkF m 21 #[vR ra0, vI (0 : Int32), vI (0 : Int32), vI (0 : Int32), vU] [(.ref ra0)]) (fun _ k => XS.iloadN X3.here hx rfl (hb hby d14_11) rfl (XS.ifNo X3.here hx rfl (hb hby d14_12) rfl ((if0 _ _).trans (teq (by decide : (0 : Int32) = (0 : Int32))).2) (XS.iloadN X3.here hx rfl (hb hby d14_15) rfl (XS.iloadN X3.here hx rfl (hb hby d14_16) rfl (XS.icmpNo X3.here hx rfl (hb hby d14_17) rfl (teq (by decide : (0 : Int32) = (0 : Int32))).2 (XS.aloadN X3.here hx rfl (hb hby d14_20) rfl rfl k)))))) ?_
  exact own_leaveN X3 hlk (v := some (.ref ra0)) (fun h => by rw [hret] at h; cases h) (lb rfl) (lb rfl) (by rw [eq3]; exact ⟨rfl, N3, rfl⟩) (fun fs hr => retOut X3 hx (t := (.object "java/lang/String")) hret rfl (Or.inr (Or.inr (Or.inr (Or.inr ⟨rfl, rfl, rfl⟩)))) (hb hby d14_21) hr)
abbrev R5_7 : Room := { frames := 4, cells := 0, slots := 0, locals := 57 }
def Q5_7 (Z : State) (ra0 : Addr) (ra1 : Addr) (kc2 : ClassId) (G1 : Int32) (G3 : Value) (h0 : Heap) (n0 : Nat) (v : Option Value) (h : Heap) (L : List Loc) : Prop := (v = some (.ref ra0) ∧ Fr n0 L ∧ h = h0)
theorem rm5_7 (l : Launch) (Z : State) (a0 : Array Value) (hw : HW Z a0) (ra0 : Addr) (ra1 : Addr) (kc2 : ClassId) (G1 : Int32) (G3 : Value) (h0 : Heap) (n0 : Nat) (OLD : Old Z n0 h0) (E_ra0 : Exa Z h0 ra0 "java/lang/String") (F_coder_ra0 : Fld Z h0 ra0 "java/lang/String" "coder" "B" (.int (0 : Int32))) (F_value_ra0 : Fld Z h0 ra0 "java/lang/String" "value" "[B" (.ref ra1)) (V_ra1 : Arv Z h0 ra1 kc2 .byte (0 : Int32) [] (.int (0 : Int32))) (O2 : Sta Z Z.heap "java/lang/String" "COMPACT_STRINGS" "Z" (.int G1)) (P5 : ¬ (G1 = (0 : Int32))) (O4 : Sta Z Z.heap "jdk/internal/util/Preconditions" "SIOOBE_FORMATTER" "Ljava/util/function/BiFunction;" G3) (rG3 : G3.isRef = true) :
    own_CN l Z y13 prog_41_method_5_code 1 (some (.object "java/lang/String")) [] R5_7 #[(.ref ra0)] h0 (Q5_7 Z ra0 ra1 kc2 G1 G3 h0 n0) := by
  refine own_entryN (plainFor_of_name pn_4) fun p e s m below meth c s₁ hx hby hml hown hnm hret hlk hZ hh X0 e0 => ?_
  have N0 := Fr.nil n0
  rw [ef_5_7 m ra0]
  refine og s₁ (mkF m 5 #[vR ra0] [(.int (46 : Int32)), (.ref ra0), (.int (0 : Int32)), (.ref ra0)]) (fun _ k => XS.aloadN X0.here hx rfl (hb hby d5_0) rfl rfl (XS.iconst X0.here hx rfl (hb hby d5_1) (XS.aloadN X0.here hx rfl (hb hby d5_2) rfl rfl (XS.bipush X0.here hx rfl (hb hby d5_3) k)))) ?_
  obtain ⟨cq1, kq1, q1a, q1b, q1c⟩ := isOf hZ e0 E_ra0
  obtain ⟨_, _, ⟨T1, L1, k1, n1⟩, -, X1, ⟨Lc1, hQ1, l1, y1, z1⟩, st1⟩ := X0.virtualBack hx (y := y9) (z := y9) hown (mvT hZ (own_w hw 31)) (mvT hZ (own_w hw 32)) (notFace_of_selects (args := #[]) (mvT hZ (own_w hw 34))) (mvT hZ (own_w hw 34)) (mvT hZ (own_w hw 33)) (by decide) (backOf (W := 2) (rm6_8 l Z a0 hw ra0 ra1 kc2 G1 h0 n0 OLD E_ra0 F_coder_ra0 F_value_ra0 V_ra1 O2 P5) hZ (own_w hw 35) (own_w hw 8) (lb rfl) (lb rfl)) q1a q1c (g := (mkF m 5 #[vR ra0] [(.int (46 : Int32)), (.ref ra0), (.int (0 : Int32)), (.ref ra0)])) rfl (by rw [hml]; rfl) (Steps.refl _) (argsL := [(.int (46 : Int32))]) (rest := [(.int (0 : Int32)), (.ref ra0)]) (lenOf pd_8 rfl) rfl (lb rfl) (hb hby d5_5) (fun _ _ => ⟨rfl, e0, (lb rfl), (lb rfl)⟩)
  dsimp only [Pt.U, Pt.locs, Pt.cells, Pt.slots] at X1 l1 y1 z1 st1 hQ1
  subst l1 y1 z1
  obtain ⟨rfl, Nq1, eq1⟩ := hQ1
  have N1 := Fr.app N0 Nq1
  refine ot T1 (mkF m 8 #[vR ra0] [(.int (-1 : Int32)), (.int (0 : Int32)), (.ref ra0)]) st1 ?_
  refine og T1 (mkF m 10 #[vR ra0] [(.int (0 : Int32)), (.int (0 : Int32)), (.ref ra0)]) (fun _ k => XS.iconst X1.here hx rfl (hb hby d5_8) (XS.iadd X1.here hx rfl (hb hby d5_9) rfl k)) ?_
  obtain ⟨cq2, kq2, q2a, q2b, q2c⟩ := isOf hZ eq1 E_ra0
  obtain ⟨_, _, ⟨T2, L2, k2, n2⟩, -, X2, ⟨Lc2, hQ2, l2, y2, z2⟩, st2⟩ := X1.virtualBack hx (y := y12) (z := y12) hown (mvT hZ (own_w hw 68)) (mvT hZ (own_w hw 69)) (notFace_of_selects (args := #[]) (mvT hZ (own_w hw 71))) (mvT hZ (own_w hw 71)) (mvT hZ (own_w hw 70)) (by decide) (backOf (W := 0) (rm14_14 l Z a0 hw ra0 ra1 kc2 G1 G3 h0 n0 OLD E_ra0 F_coder_ra0 F_value_ra0 V_ra1 O2 P5 O4 rG3) hZ (own_w hw 72) (own_w hw 8) (lb rfl) (lb rfl)) q2a q2c (g := (mkF m 10 #[vR ra0] [(.int (0 : Int32)), (.int (0 : Int32)), (.ref ra0)])) rfl (by rw [hml]; rfl) (Steps.refl _) (argsL := [(.int (0 : Int32)), (.int (0 : Int32))]) (rest := []) (lenOf pd_11 rfl) rfl (lb rfl) (hb hby d5_10) (fun _ _ => ⟨rfl, eq1, (lb rfl), (lb rfl)⟩)
  dsimp only [Pt.U, Pt.locs, Pt.cells, Pt.slots] at X2 l2 y2 z2 st2 hQ2
  subst l2 y2 z2
  obtain ⟨rfl, Nq2, eq2⟩ := hQ2
  have N2 := Fr.app N1 Nq2
  refine ot T2 (mkF m 13 #[vR ra0] [(.ref ra0)]) st2 ?_
  exact own_leaveN X2 hlk (v := some (.ref ra0)) (fun h => by rw [hret] at h; cases h) (lb rfl) (lb rfl) (by rw [eq2]; exact ⟨rfl, N2, rfl⟩) (fun fs hr => retOut X2 hx (t := (.object "java/lang/String")) hret rfl (Or.inr (Or.inr (Or.inr (Or.inr ⟨rfl, rfl, rfl⟩)))) (hb hby d5_13) hr)
abbrev R10_20 : Room := { frames := 0, cells := 0, slots := 0, locals := 0 }
def Q10_20 (Z : State) (ra0 : Addr) (ra1 : Addr) (kc2 : ClassId) (ci3 : Int32) (G1 : Int32) (h0 : Heap) (n0 : Nat) (v : Option Value) (h : Heap) (L : List Loc) : Prop := (v = some (.int (1 : Int32)) ∧ Fr n0 L ∧ h = h0)
theorem rm10_20 (l : Launch) (Z : State) (a0 : Array Value) (hw : HW Z a0) (ra0 : Addr) (ra1 : Addr) (kc2 : ClassId) (ci3 : Int32) (G1 : Int32) (h0 : Heap) (n0 : Nat) (OLD : Old Z n0 h0) (E_ra0 : Exa Z h0 ra0 "java/lang/String") (F_coder_ra0 : Fld Z h0 ra0 "java/lang/String" "coder" "B" (.int (0 : Int32))) (F_value_ra0 : Fld Z h0 ra0 "java/lang/String" "value" "[B" (.ref ra1)) (hl_ci3 : ¬ ci3 < 0 ∧ ¬ (255 : Int32) < ci3) (V_ra1 : Arv Z h0 ra1 kc2 .byte (1 : Int32) [(.int (ci3.toInt8.toInt32))] (.int (0 : Int32))) (O2 : Sta Z Z.heap "java/lang/String" "COMPACT_STRINGS" "Z" (.int G1)) (P5 : ¬ (G1 = (0 : Int32))) :
    own_CN l Z y4 jdk_42_method_154_code 1 (some .boolean) [] R10_20 #[(.ref ra0)] h0 (Q10_20 Z ra0 ra1 kc2 ci3 G1 h0 n0) := by
  refine own_entryN (plainFor_of_name pn_1) fun p e s m below meth c s₁ hx hby hml hown hnm hret hlk hZ hh X0 e0 => ?_
  have N0 := Fr.nil n0
  rw [ef_10_20 m ra0]
  obtain ⟨T1, X1, e1, st1⟩ := getS2 X0 hx hZ hown (host := "") (Or.inl (own_w hw 46)) Via.refl e0 (O2.ext OLD.2) (g := (mkF m 0 #[vR ra0] [])) rfl (hb hby d10_0)
  refine og T1 (mkF m 3 #[vR ra0] [(.int G1)]) st1 ?_
  refine og T1 (mkF m 7 #[vR ra0] [(.ref ra0)]) (fun _ k => XS.ifNo X1.here hx rfl (hb hby d10_3) rfl ((if0 _ _).trans (feq P5).1) (XS.aloadN X1.here hx rfl (hb hby d10_6) rfl rfl k)) ?_
  obtain ⟨T2, X2, e2, st2⟩ := getF X1 hx hZ hown (host := "") (Or.inl (own_w hw 26)) Via.refl e1 F_coder_ra0 (g := (mkF m 7 #[vR ra0] [(.ref ra0)])) rfl rfl (hb hby d10_7)
  refine og T2 (mkF m 10 #[vR ra0] [(.int (0 : Int32))]) st2 ?_
  refine og T2 (mkF m 18 #[vR ra0] [(.int (1 : Int32))]) (fun _ k => XS.ifNo X2.here hx rfl (hb hby d10_10) rfl ((if0 _ _).trans (teq (by decide : (0 : Int32) = (0 : Int32))).2) (XS.iconst X2.here hx rfl (hb hby d10_13) (XS.goto X2.here hx rfl (pc0 := 14) (pc' := 18) rfl (hb hby d10_14) (by decide) (by decide) k))) ?_
  exact own_leaveN X2 hlk (v := some (.int (nar .boolean (1 : Int32)))) (fun h => by rw [hret] at h; cases h) (lb rfl) (lb rfl) (by rw [e2]; exact ⟨rfl, N0, rfl⟩) (fun fs hr => retN X2 hx (t := .boolean) hret (by simp) (hb hby d10_18) hr)
abbrev R13_22 : Room := { frames := 0, cells := 0, slots := 0, locals := 0 }
def Q13_22 (Z : State)  (h0 : Heap) (n0 : Nat) (v : Option Value) (h : Heap) (L : List Loc) : Prop := (v = some (.int (0 : Int32)) ∧ Fr n0 L ∧ h = h0)
theorem rm13_22 (l : Launch) (Z : State) (a0 : Array Value) (hw : HW Z a0)  (h0 : Heap) (n0 : Nat) (OLD : Old Z n0 h0) :
    own_CN l Z y6 jdk_29_method_69_code 2 (some .int) [] R13_22 #[(.int (0 : Int32)), (.int (0 : Int32))] h0 (Q13_22 Z  h0 n0) := by
  refine own_entryN (Jvm.Free.JP.mathPlain rfl (by decide +kernel)) fun p e s m below meth c s₁ hx hby hml hown hnm hret hlk hZ hh X0 e0 => ?_
  have N0 := Fr.nil n0
  rw [ef_13_22 m ]
  refine og s₁ (mkF m 10 #[vI (0 : Int32), vI (0 : Int32)] [(.int (0 : Int32))]) (fun _ k => XS.iloadN X0.here hx rfl (hb hby d13_0) rfl (XS.iloadN X0.here hx rfl (hb hby d13_1) rfl (XS.icmpNo X0.here hx rfl (hb hby d13_2) rfl (flt (by decide : ¬ ((0 : Int32) < (0 : Int32)))).2.2.1 (XS.iloadN X0.here hx rfl (hb hby d13_5) rfl (XS.goto X0.here hx rfl (pc0 := 6) (pc' := 10) rfl (hb hby d13_6) (by decide) (by decide) k))))) ?_
  exact own_leaveN X0 hlk (v := some (.int (0 : Int32))) (fun h => by rw [hret] at h; cases h) (lb rfl) (lb rfl) (by rw [e0]; exact ⟨rfl, N0, rfl⟩) (fun fs hr => retI X0 hx hret (hb hby d13_10) hr)
abbrev R11_21 : Room := { frames := 1, cells := 0, slots := 0, locals := 13 }
def Q11_21 (Z : State) (ra0 : Addr) (kc1 : ClassId) (ci2 : Int32) (h0 : Heap) (n0 : Nat) (v : Option Value) (h : Heap) (L : List Loc) : Prop := ((ci2.toInt8.toInt32) = (46 : Int32) ∧ v = some (.int (0 : Int32)) ∧ Fr n0 L ∧ h = h0) ∨ ((¬ ((ci2.toInt8.toInt32) = (46 : Int32))) ∧ v = some (.int (-1 : Int32)) ∧ Fr n0 L ∧ h = h0)
theorem rm11_21 (l : Launch) (Z : State) (a0 : Array Value) (hw : HW Z a0) (ra0 : Addr) (kc1 : ClassId) (ci2 : Int32) (h0 : Heap) (n0 : Nat) (OLD : Old Z n0 h0) (hl_ci2 : ¬ ci2 < 0 ∧ ¬ (255 : Int32) < ci2) (V_ra0 : Arv Z h0 ra0 kc1 .byte (1 : Int32) [(.int (ci2.toInt8.toInt32))] (.int (0 : Int32))) :
    own_CN l Z y7 jdk_43_method_27_code 4 (some .int) [] R11_21 #[(.ref ra0), (.int (46 : Int32)), (.int (0 : Int32))] h0 (Q11_21 Z ra0 kc1 ci2 h0 n0) := by
  refine own_entryN (plainFor_of_name pn_2) fun p e s m below meth c s₁ hx hby hml hown hnm hret hlk hZ hh X0 e0 => ?_
  have N0 := Fr.nil n0
  rw [ef_11_21 m ra0]
  refine og s₁ (mkF m 1 #[vR ra0, vI (46 : Int32), vI (0 : Int32), vU] [(.int (46 : Int32))]) (fun _ k => XS.iloadN X0.here hx rfl (hb hby d11_0) rfl k) ?_
  obtain ⟨_, _, ⟨T1, L1, k1, n1⟩, -, X1, ⟨Lc1, hQ1, l1, y1, z1⟩, st1⟩ := Jvm.LawKit.callS X0 hx (y := y5) hown (mvT hZ (own_w hw 61)) (mvT hZ (own_w hw 62)) (mvT hZ (own_w hw 59)) (mvT hZ (own_w hw 63)) (by decide) (backOf (W := 0) (rm12_12 l Z a0 hw  h0 n0 OLD ) hZ (own_w hw 63) (own_w hw 59) (lb rfl) (lb rfl)) (g := (mkF m 1 #[vR ra0, vI (46 : Int32), vI (0 : Int32), vU] [(.int (46 : Int32))])) rfl (by rw [hml]; rfl) (argsL := [(.int (46 : Int32))]) (rest := []) (lenOf pd_5 rfl) rfl (lb rfl) (hb hby d11_1) (fun _ _ => ⟨rfl, e0, (lb rfl), (lb rfl)⟩)
  dsimp only [Pt.U, Pt.locs, Pt.cells, Pt.slots] at X1 l1 y1 z1 st1 hQ1
  subst l1 y1 z1
  obtain ⟨rfl, Nq1, eq1⟩ := hQ1
  have N1 := Fr.app N0 Nq1
  refine og T1 (mkF m 4 #[vR ra0, vI (46 : Int32), vI (0 : Int32), vU] [(.int (1 : Int32))]) st1 ?_
  refine og T1 (mkF m 11 #[vR ra0, vI (46 : Int32), vI (0 : Int32), vU] [(.ref ra0), (.int (0 : Int32))]) (fun _ k => XS.ifYes X1.here hx rfl (pc0 := 4) (pc' := 9) rfl (hb hby d11_4) rfl ((if0 _ _).trans (feq (by decide : ¬ ((1 : Int32) = (0 : Int32)))).2) (by decide) (by decide) (XS.iloadN X1.here hx rfl (hb hby d11_9) rfl (XS.aloadN X1.here hx rfl (hb hby d11_10) rfl rfl k))) ?_
  obtain ⟨cl2, Ar2, -, Sr2, Nr2, -, -⟩ := id V_ra0
  refine og T1 (mkF m 12 #[vR ra0, vI (46 : Int32), vI (0 : Int32), vU] [(.int (1 : Int32)), (.int (0 : Int32))]) (fun t k => X1.arraylength hx (by rw [eq1]; exact Ar2.1) (State.isArrayOf_alike hZ.alike Ar2.2.1) (g := (mkF m 11 #[vR ra0, vI (46 : Int32), vI (0 : Int32), vU] [(.ref ra0), (.int (0 : Int32))])) rfl rfl (hb hby d11_11) t (by rw [len_of Sr2 Nr2]; exact k)) ?_
  refine og T1 (mkF m 14 #[vR ra0, vI (46 : Int32), vI (0 : Int32), vU] [(.int (0 : Int32)), (.int (0 : Int32))]) (fun _ k => XS.iconst X1.here hx rfl (hb hby d11_12) (XS.isub X1.here hx rfl (hb hby d11_13) rfl k)) ?_
  obtain ⟨_, _, ⟨T3, L3, k3, n3⟩, -, X3, ⟨Lc3, hQ3, l3, y3, z3⟩, st3⟩ := Jvm.LawKit.callS X1 hx (y := y6) hown (mvT hZ (own_w hw 64)) (mvT hZ (own_w hw 65)) (mvT hZ (own_w hw 66)) (mvT hZ (own_w hw 67)) (by decide) (backOf (W := 0) (rm13_22 l Z a0 hw  h0 n0 OLD ) hZ (own_w hw 67) (own_w hw 66) (lb rfl) (lb rfl)) (g := (mkF m 14 #[vR ra0, vI (46 : Int32), vI (0 : Int32), vU] [(.int (0 : Int32)), (.int (0 : Int32))])) rfl (by rw [hml]; rfl) (argsL := [(.int (0 : Int32)), (.int (0 : Int32))]) (rest := []) (lenOf pd_6 rfl) rfl (lb rfl) (hb hby d11_14) (fun _ _ => ⟨rfl, eq1, (lb rfl), (lb rfl)⟩)
  dsimp only [Pt.U, Pt.locs, Pt.cells, Pt.slots] at X3 l3 y3 z3 st3 hQ3
  subst l3 y3 z3
  obtain ⟨rfl, Nq3, eq3⟩ := hQ3
  have N3 := Fr.app N1 Nq3
  refine og T3 (mkF m 17 #[vR ra0, vI (46 : Int32), vI (0 : Int32), vU] [(.int (0 : Int32))]) st3 ?_
  refine og T3 (mkF m 24 #[vR ra0, vI (46 : Int32), vI (0 : Int32), vI (0 : Int32)] [(.int (0 : Int32)), (.ref ra0)]) (fun _ k => XS.istoreN X3.here hx rfl (hb hby d11_17) rfl (l' := #[vR ra0, vI (46 : Int32), vI (0 : Int32), vI (0 : Int32)]) rfl (XS.iloadN X3.here hx rfl (hb hby d11_18) rfl (XS.ifNo X3.here hx rfl (hb hby d11_19) rfl ((if0 _ _).trans (flt (by decide : ¬ ((0 : Int32) < (0 : Int32)))).1) (XS.aloadN X3.here hx rfl (hb hby d11_22) rfl rfl (XS.iloadN X3.here hx rfl (hb hby d11_23) rfl k))))) ?_
  obtain ⟨cl4, Ar4, qr4, Sr4, Nr4, Hr4, Gr4⟩ := id V_ra0
  have hi4 : ¬ ((0 : Int32) < 0 ∨ cl4.slots.size ≤ ((0 : Int32)).toNatClampNeg) := inb_of Sr4 ⟨by decide, by decide⟩
  refine og T3 (mkF m 25 #[vR ra0, vI (46 : Int32), vI (0 : Int32), vI (0 : Int32)] [(.int (ci2.toInt8.toInt32))]) (fun t k => X3.baloadBytes hx (j := (0 : Int32)) (v := (.int (ci2.toInt8.toInt32))) (by rw [eq3]; exact Ar4.1) (State.isArrayOf_alike hZ.alike Ar4.2.1) Ar4.2.2 hi4 (Has.at Hr4 hi4 rfl) (g := (mkF m 24 #[vR ra0, vI (46 : Int32), vI (0 : Int32), vI (0 : Int32)] [(.int (0 : Int32)), (.ref ra0)])) rfl rfl (hb hby d11_24) t k) ?_
  refine og T3 (mkF m 27 #[vR ra0, vI (46 : Int32), vI (0 : Int32), vI (0 : Int32)] [(.int (46 : Int32)), (.int (ci2.toInt8.toInt32))]) (fun _ k => XS.iloadN X3.here hx rfl (hb hby d11_25) rfl (XS.i2b X3.here hx rfl (hb hby d11_26) rfl k)) ?_
  by_cases hc5 : (ci2.toInt8.toInt32) = (46 : Int32)
  · refine og T3 (mkF m 31 #[vR ra0, vI (46 : Int32), vI (0 : Int32), vI (0 : Int32)] [(.int (0 : Int32))]) (fun _ k => XS.icmpNo X3.here hx rfl (hb hby d11_27) rfl (teq hc5).2 (XS.iloadN X3.here hx rfl (hb hby d11_30) rfl k)) ?_
    exact own_leaveN X3 hlk (v := some (.int (0 : Int32))) (fun h => by rw [hret] at h; cases h) (lb rfl) (lb rfl) (by rw [eq3]; exact (Or.inl ⟨hc5, rfl, N3, rfl⟩)) (fun fs hr => retI X3 hx hret (hb hby d11_31) hr)
  · refine og T3 (mkF m 39 #[vR ra0, vI (46 : Int32), vI (0 : Int32), vI (-1 : Int32)] [(.int (-1 : Int32))]) (fun _ k => XS.icmpYes X3.here hx rfl (pc0 := 27) (pc' := 32) rfl (hb hby d11_27) rfl (feq hc5).2 (by decide) (by decide) (XS.iinc X3.here hx rfl (hb hby d11_32) rfl (l' := #[vR ra0, vI (46 : Int32), vI (0 : Int32), vI (-1 : Int32)]) rfl (XS.goto X3.here hx rfl (pc0 := 35) (pc' := 18) rfl (hb hby d11_35) (by decide) (by decide) (XS.iloadN X3.here hx rfl (hb hby d11_18) rfl (XS.ifYes X3.here hx rfl (pc0 := 19) (pc' := 38) rfl (hb hby d11_19) rfl ((if0 _ _).trans (tlt (by decide : (-1 : Int32) < (0 : Int32))).1) (by decide) (by decide) (XS.iconst X3.here hx rfl (hb hby d11_38) k)))))) ?_
    exact own_leaveN X3 hlk (v := some (.int (-1 : Int32))) (fun h => by rw [hret] at h; cases h) (lb rfl) (lb rfl) (by rw [eq3]; exact (Or.inr ⟨hc5, rfl, N3, rfl⟩)) (fun fs hr => retI X3 hx hret (hb hby d11_39) hr)
abbrev R9_19 : Room := { frames := 2, cells := 0, slots := 0, locals := 28 }
def Q9_19 (Z : State) (ra0 : Addr) (ra1 : Addr) (kc2 : ClassId) (ci3 : Int32) (G1 : Int32) (h0 : Heap) (n0 : Nat) (v : Option Value) (h : Heap) (L : List Loc) : Prop := ((ci3.toInt8.toInt32) = (46 : Int32) ∧ v = some (.int (0 : Int32)) ∧ Fr n0 L ∧ h = h0) ∨ ((¬ ((ci3.toInt8.toInt32) = (46 : Int32))) ∧ v = some (.int (-1 : Int32)) ∧ Fr n0 L ∧ h = h0)
theorem rm9_19 (l : Launch) (Z : State) (a0 : Array Value) (hw : HW Z a0) (ra0 : Addr) (ra1 : Addr) (kc2 : ClassId) (ci3 : Int32) (G1 : Int32) (h0 : Heap) (n0 : Nat) (OLD : Old Z n0 h0) (E_ra0 : Exa Z h0 ra0 "java/lang/String") (F_coder_ra0 : Fld Z h0 ra0 "java/lang/String" "coder" "B" (.int (0 : Int32))) (F_value_ra0 : Fld Z h0 ra0 "java/lang/String" "value" "[B" (.ref ra1)) (hl_ci3 : ¬ ci3 < 0 ∧ ¬ (255 : Int32) < ci3) (V_ra1 : Arv Z h0 ra1 kc2 .byte (1 : Int32) [(.int (ci3.toInt8.toInt32))] (.int (0 : Int32))) (O2 : Sta Z Z.heap "java/lang/String" "COMPACT_STRINGS" "Z" (.int G1)) (P5 : ¬ (G1 = (0 : Int32))) :
    own_CN l Z y8 jdk_42_method_83_code 3 (some .int) [] R9_19 #[(.ref ra0), (.int (46 : Int32)), (.int (0 : Int32))] h0 (Q9_19 Z ra0 ra1 kc2 ci3 G1 h0 n0) := by
  refine own_entryN (plainFor_of_name pn_1) fun p e s m below meth c s₁ hx hby hml hown hnm hret hlk hZ hh X0 e0 => ?_
  have N0 := Fr.nil n0
  rw [ef_9_19 m ra0]
  refine og s₁ (mkF m 1 #[vR ra0, vI (46 : Int32), vI (0 : Int32)] [(.ref ra0)]) (fun _ k => XS.aloadN X0.here hx rfl (hb hby d9_0) rfl rfl k) ?_
  obtain ⟨cq1, kq1, q1a, q1b, q1c⟩ := isOf hZ e0 E_ra0
  obtain ⟨_, _, ⟨T1, L1, k1, n1⟩, -, X1, ⟨Lc1, hQ1, l1, y1, z1⟩, st1⟩ := X0.virtualBack hx (y := y4) (z := y4) hown (mvT hZ (own_w hw 52)) (mvT hZ (own_w hw 53)) (notFace_of_selects (args := #[]) (mvT hZ (own_w hw 55))) (mvT hZ (own_w hw 55)) (mvT hZ (own_w hw 54)) (by decide) (backOf (W := 0) (rm10_20 l Z a0 hw ra0 ra1 kc2 ci3 G1 h0 n0 OLD E_ra0 F_coder_ra0 F_value_ra0 hl_ci3 V_ra1 O2 P5) hZ (own_w hw 56) (own_w hw 8) (lb rfl) (lb rfl)) q1a q1c (g := (mkF m 1 #[vR ra0, vI (46 : Int32), vI (0 : Int32)] [(.ref ra0)])) rfl (by rw [hml]; rfl) (Steps.refl _) (argsL := []) (rest := []) (lenOf pd_4 rfl) rfl (lb rfl) (hb hby d9_1) (fun _ _ => ⟨rfl, e0, (lb rfl), (lb rfl)⟩)
  dsimp only [Pt.U, Pt.locs, Pt.cells, Pt.slots] at X1 l1 y1 z1 st1 hQ1
  subst l1 y1 z1
  obtain ⟨rfl, Nq1, eq1⟩ := hQ1
  have N1 := Fr.app N0 Nq1
  refine ot T1 (mkF m 4 #[vR ra0, vI (46 : Int32), vI (0 : Int32)] [(.int (1 : Int32))]) st1 ?_
  refine og T1 (mkF m 8 #[vR ra0, vI (46 : Int32), vI (0 : Int32)] [(.ref ra0)]) (fun _ k => XS.ifNo X1.here hx rfl (hb hby d9_4) rfl ((if0 _ _).trans (feq (by decide : ¬ ((1 : Int32) = (0 : Int32)))).1) (XS.aloadN X1.here hx rfl (hb hby d9_7) rfl rfl k)) ?_
  obtain ⟨T2, X2, e2, st2⟩ := getF X1 hx hZ hown (host := "") (Or.inl (own_w hw 25)) Via.refl eq1 F_value_ra0 (g := (mkF m 8 #[vR ra0, vI (46 : Int32), vI (0 : Int32)] [(.ref ra0)])) rfl rfl (hb hby d9_8)
  refine og T2 (mkF m 11 #[vR ra0, vI (46 : Int32), vI (0 : Int32)] [(.ref ra1)]) st2 ?_
  refine og T2 (mkF m 13 #[vR ra0, vI (46 : Int32), vI (0 : Int32)] [(.int (0 : Int32)), (.int (46 : Int32)), (.ref ra1)]) (fun _ k => XS.iloadN X2.here hx rfl (hb hby d9_11) rfl (XS.iloadN X2.here hx rfl (hb hby d9_12) rfl k)) ?_
  obtain ⟨_, _, ⟨T3, L3, k3, n3⟩, -, X3, ⟨Lc3, hQ3, l3, y3, z3⟩, st3⟩ := Jvm.LawKit.callS X2 hx (y := y7) hown (mvT hZ (own_w hw 57)) (mvT hZ (own_w hw 58)) (mvT hZ (own_w hw 59)) (mvT hZ (own_w hw 60)) (by decide) (backOf (W := 0) (rm11_21 l Z a0 hw ra1 kc2 ci3 h0 n0 OLD hl_ci3 V_ra1) hZ (own_w hw 60) (own_w hw 59) (lb rfl) (lb rfl)) (g := (mkF m 13 #[vR ra0, vI (46 : Int32), vI (0 : Int32)] [(.int (0 : Int32)), (.int (46 : Int32)), (.ref ra1)])) rfl (by rw [hml]; rfl) (argsL := [(.ref ra1), (.int (46 : Int32)), (.int (0 : Int32))]) (rest := []) (lenOf pd_7 rfl) rfl (lb rfl) (hb hby d9_13) (fun _ _ => ⟨rfl, e2, (lb rfl), (lb rfl)⟩)
  dsimp only [Pt.U, Pt.locs, Pt.cells, Pt.slots] at X3 l3 y3 z3 st3 hQ3
  subst l3 y3 z3
  rcases hQ3 with hQ3 | hQ3
  · obtain ⟨hc4, rfl, Nq3, eq3⟩ := hQ3
    have N3 := Fr.app N1 Nq3
    refine og T3 (mkF m 16 #[vR ra0, vI (46 : Int32), vI (0 : Int32)] [(.int (0 : Int32))]) st3 ?_
    refine og T3 (mkF m 28 #[vR ra0, vI (46 : Int32), vI (0 : Int32)] [(.int (0 : Int32))]) (fun _ k => XS.goto X3.here hx rfl (pc0 := 16) (pc' := 28) rfl (hb hby d9_16) (by decide) (by decide) k) ?_
    exact own_leaveN X3 hlk (v := some (.int (0 : Int32))) (fun h => by rw [hret] at h; cases h) (lb rfl) (lb rfl) (by rw [eq3]; exact (Or.inl ⟨hc4, rfl, N3, rfl⟩)) (fun fs hr => retI X3 hx hret (hb hby d9_28) hr)
  · obtain ⟨hc5, rfl, Nq3, eq3⟩ := hQ3
    have N3 := Fr.app N1 Nq3
    refine og T3 (mkF m 16 #[vR ra0, vI (46 : Int32), vI (0 : Int32)] [(.int (-1 : Int32))]) st3 ?_
    refine og T3 (mkF m 28 #[vR ra0, vI (46 : Int32), vI (0 : Int32)] [(.int (-1 : Int32))]) (fun _ k => XS.goto X3.here hx rfl (pc0 := 16) (pc' := 28) rfl (hb hby d9_16) (by decide) (by decide) k) ?_
    exact own_leaveN X3 hlk (v := some (.int (-1 : Int32))) (fun h => by rw [hret] at h; cases h) (lb rfl) (lb rfl) (by rw [eq3]; exact (Or.inr ⟨hc5, rfl, N3, rfl⟩)) (fun fs hr => retI X3 hx hret (hb hby d9_28) hr)
abbrev R6_18 : Room := { frames := 3, cells := 0, slots := 0, locals := 42 }
def Q6_18 (Z : State) (ra0 : Addr) (ra1 : Addr) (kc2 : ClassId) (ci3 : Int32) (G1 : Int32) (h0 : Heap) (n0 : Nat) (v : Option Value) (h : Heap) (L : List Loc) : Prop := ((ci3.toInt8.toInt32) = (46 : Int32) ∧ v = some (.int (0 : Int32)) ∧ Fr n0 L ∧ h = h0) ∨ ((¬ ((ci3.toInt8.toInt32) = (46 : Int32))) ∧ v = some (.int (-1 : Int32)) ∧ Fr n0 L ∧ h = h0)
theorem rm6_18 (l : Launch) (Z : State) (a0 : Array Value) (hw : HW Z a0) (ra0 : Addr) (ra1 : Addr) (kc2 : ClassId) (ci3 : Int32) (G1 : Int32) (h0 : Heap) (n0 : Nat) (OLD : Old Z n0 h0) (E_ra0 : Exa Z h0 ra0 "java/lang/String") (F_coder_ra0 : Fld Z h0 ra0 "java/lang/String" "coder" "B" (.int (0 : Int32))) (F_value_ra0 : Fld Z h0 ra0 "java/lang/String" "value" "[B" (.ref ra1)) (hl_ci3 : ¬ ci3 < 0 ∧ ¬ (255 : Int32) < ci3) (V_ra1 : Arv Z h0 ra1 kc2 .byte (1 : Int32) [(.int (ci3.toInt8.toInt32))] (.int (0 : Int32))) (O2 : Sta Z Z.heap "java/lang/String" "COMPACT_STRINGS" "Z" (.int G1)) (P5 : ¬ (G1 = (0 : Int32))) :
    own_CN l Z y9 jdk_42_method_82_code 2 (some .int) [] R6_18 #[(.ref ra0), (.int (46 : Int32))] h0 (Q6_18 Z ra0 ra1 kc2 ci3 G1 h0 n0) := by
  refine own_entryN (plainFor_of_name pn_1) fun p e s m below meth c s₁ hx hby hml hown hnm hret hlk hZ hh X0 e0 => ?_
  have N0 := Fr.nil n0
  rw [ef_6_18 m ra0]
  refine og s₁ (mkF m 3 #[vR ra0, vI (46 : Int32)] [(.ref ra0), (.int (46 : Int32)), (.ref ra0)]) (fun _ k => XS.aloadN X0.here hx rfl (hb hby d6_0) rfl rfl (XS.iloadN X0.here hx rfl (hb hby d6_1) rfl (XS.aloadN X0.here hx rfl (hb hby d6_2) rfl rfl k))) ?_
  have hp1 : ∀ c ∈ ([ci3] : List Int32), ¬ c < 0 ∧ ¬ (255 : Int32) < c := by
    intro c hc
    simp only [List.mem_cons, List.not_mem_nil, or_false] at hc
    rcases hc with rfl
    · exact hl_ci3
  obtain ⟨cq2, kq2, q2a, q2b, q2c⟩ := isOf hZ e0 E_ra0
  obtain ⟨_, _, ⟨T2, L2, k2, n2⟩, -, X2, ⟨Lc2, hQ2, l2, y2, z2⟩, st2⟩ := X0.virtualBack hx (y := y3) (z := y3) hown (mvT hZ (own_w hw 36)) (mvT hZ (own_w hw 37)) (notFace_of_selects (args := #[]) (mvT hZ (own_w hw 39))) (mvT hZ (own_w hw 39)) (mvT hZ (own_w hw 38)) (by decide) (StrChars.Road.lenW (W := 2) hZ (own_hln hw) (kI := 4) (own_w hw 7) (cs := ([ci3] : List Int32)) E_ra0 F_value_ra0 F_coder_ra0 V_ra1 (StrChars.Road.codOf rfl (fun c hc => (hp1 c hc).2)) (own_up _ hp1) (O2.ext OLD.2) P5 (lb rfl) (lb rfl) (lb rfl)) q2a q2c (g := (mkF m 3 #[vR ra0, vI (46 : Int32)] [(.ref ra0), (.int (46 : Int32)), (.ref ra0)])) rfl (by rw [hml]; rfl) (Steps.refl _) (argsL := []) (rest := [(.int (46 : Int32)), (.ref ra0)]) (lenOf pd_3 rfl) rfl (lb rfl) (hb hby d6_3) (fun _ _ => ⟨rfl, e0, (lb rfl), (lb rfl)⟩)
  dsimp only [Pt.U, Pt.locs, Pt.cells, Pt.slots] at X2 l2 y2 z2 st2 hQ2
  subst l2 y2 z2
  obtain ⟨rfl, rfl, eq2⟩ := hQ2
  have N2 := Fr.app N0 (Fr.nil n0)
  refine ot T2 (mkF m 6 #[vR ra0, vI (46 : Int32)] [(.int (1 : Int32)), (.int (46 : Int32)), (.ref ra0)]) st2 ?_
  refine og T2 (mkF m 8 #[vR ra0, vI (46 : Int32)] [(.int (0 : Int32)), (.int (46 : Int32)), (.ref ra0)]) (fun _ k => XS.iconst X2.here hx rfl (hb hby d6_6) (XS.isub X2.here hx rfl (hb hby d6_7) rfl k)) ?_
  obtain ⟨cq3, kq3, q3a, q3b, q3c⟩ := isOf hZ eq2 E_ra0
  obtain ⟨_, _, ⟨T3, L3, k3, n3⟩, -, X3, ⟨Lc3, hQ3, l3, y3, z3⟩, st3⟩ := X2.virtualBack hx (y := y8) (z := y8) hown (mvT hZ (own_w hw 47)) (mvT hZ (own_w hw 48)) (notFace_of_selects (args := #[]) (mvT hZ (own_w hw 50))) (mvT hZ (own_w hw 50)) (mvT hZ (own_w hw 49)) (by decide) (backOf (W := 0) (rm9_19 l Z a0 hw ra0 ra1 kc2 ci3 G1 h0 n0 OLD E_ra0 F_coder_ra0 F_value_ra0 hl_ci3 V_ra1 O2 P5) hZ (own_w hw 51) (own_w hw 8) (lb rfl) (lb rfl)) q3a q3c (g := (mkF m 8 #[vR ra0, vI (46 : Int32)] [(.int (0 : Int32)), (.int (46 : Int32)), (.ref ra0)])) rfl (by rw [hml]; rfl) (Steps.refl _) (argsL := [(.int (46 : Int32)), (.int (0 : Int32))]) (rest := []) (lenOf pd_6 rfl) rfl (lb rfl) (hb hby d6_8) (fun _ _ => ⟨rfl, eq2, (lb rfl), (lb rfl)⟩)
  dsimp only [Pt.U, Pt.locs, Pt.cells, Pt.slots] at X3 l3 y3 z3 st3 hQ3
  subst l3 y3 z3
  rcases hQ3 with hQ3 | hQ3
  · obtain ⟨hc4, rfl, Nq3, eq3⟩ := hQ3
    have N3 := Fr.app N2 Nq3
    refine ot T3 (mkF m 11 #[vR ra0, vI (46 : Int32)] [(.int (0 : Int32))]) st3 ?_
    exact own_leaveN X3 hlk (v := some (.int (0 : Int32))) (fun h => by rw [hret] at h; cases h) (lb rfl) (lb rfl) (by rw [eq3]; exact (Or.inl ⟨hc4, rfl, N3, rfl⟩)) (fun fs hr => retI X3 hx hret (hb hby d6_11) hr)
  · obtain ⟨hc5, rfl, Nq3, eq3⟩ := hQ3
    have N3 := Fr.app N2 Nq3
    refine ot T3 (mkF m 11 #[vR ra0, vI (46 : Int32)] [(.int (-1 : Int32))]) st3 ?_
    exact own_leaveN X3 hlk (v := some (.int (-1 : Int32))) (fun h => by rw [hret] at h; cases h) (lb rfl) (lb rfl) (by rw [eq3]; exact (Or.inr ⟨hc5, rfl, N3, rfl⟩)) (fun fs hr => retI X3 hx hret (hb hby d6_11) hr)
abbrev R16_25 : Room := { frames := 0, cells := 0, slots := 0, locals := 0 }
def Q16_25 (Z : State) (cv0 : Value) (h0 : Heap) (n0 : Nat) (v : Option Value) (h : Heap) (L : List Loc) : Prop := (v = some (.int (0 : Int32)) ∧ Fr n0 L ∧ h = h0)
theorem rm16_25 (l : Launch) (Z : State) (a0 : Array Value) (hw : HW Z a0) (cv0 : Value) (h0 : Heap) (n0 : Nat) (OLD : Old Z n0 h0) (rf_cv0 : cv0.isRef = true) :
    own_CN l Z y10 jdk_41_method_12_code 4 (some .int) [] R16_25 #[(.int (0 : Int32)), (.int (1 : Int32)), (.int (1 : Int32)), cv0] h0 (Q16_25 Z cv0 h0 n0) := by
  refine own_entryN (plainFor_of_name pn_3) fun p e s m below meth c s₁ hx hby hml hown hnm hret hlk hZ hh X0 e0 => ?_
  have N0 := Fr.nil n0
  rw [ef_16_25 m cv0 rf_cv0]
  refine og s₁ (mkF m 23 #[vI (0 : Int32), vI (1 : Int32), vI (1 : Int32), .val cv0] [(.int (0 : Int32))]) (fun _ k => XS.iloadN X0.here hx rfl (hb hby d16_0) rfl (XS.ifNo X0.here hx rfl (hb hby d16_1) rfl ((if0 _ _).trans (flt (by decide : ¬ ((0 : Int32) < (0 : Int32)))).1) (XS.iloadN X0.here hx rfl (hb hby d16_4) rfl (XS.iloadN X0.here hx rfl (hb hby d16_5) rfl (XS.icmpNo X0.here hx rfl (hb hby d16_6) rfl (flt (by decide : ¬ ((1 : Int32) < (0 : Int32)))).2.2.1 (XS.iloadN X0.here hx rfl (hb hby d16_9) rfl (XS.iloadN X0.here hx rfl (hb hby d16_10) rfl (XS.icmpYes X0.here hx rfl (pc0 := 11) (pc' := 22) rfl (hb hby d16_11) rfl (flt (by decide : ¬ ((1 : Int32) < (1 : Int32)))).2.2.2 (by decide) (by decide) (XS.iloadN X0.here hx rfl (hb hby d16_22) rfl k))))))))) ?_
  exact own_leaveN X0 hlk (v := some (.int (0 : Int32))) (fun h => by rw [hret] at h; cases h) (lb rfl) (lb rfl) (by rw [e0]; exact ⟨rfl, N0, rfl⟩) (fun fs hr => retI X0 hx hret (hb hby d16_23) hr)
abbrev R15_24 : Room := { frames := 1, cells := 0, slots := 0, locals := 15 }
def Q15_24 (Z : State) (G3 : Value) (h0 : Heap) (n0 : Nat) (v : Option Value) (h : Heap) (L : List Loc) : Prop := (v = none ∧ Fr n0 L ∧ h = h0)
theorem rm15_24 (l : Launch) (Z : State) (a0 : Array Value) (hw : HW Z a0) (G3 : Value) (h0 : Heap) (n0 : Nat) (OLD : Old Z n0 h0) (O4 : Sta Z Z.heap "jdk/internal/util/Preconditions" "SIOOBE_FORMATTER" "Ljava/util/function/BiFunction;" G3) (rG3 : G3.isRef = true) :
    own_CN l Z y11 jdk_42_method_158_code 3 none [] R15_24 #[(.int (0 : Int32)), (.int (1 : Int32)), (.int (1 : Int32))] h0 (Q15_24 Z G3 h0 n0) := by
  refine own_entryN (plainFor_of_name pn_1) fun p e s m below meth c s₁ hx hby hml hown hnm hret hlk hZ hh X0 e0 => ?_
  have N0 := Fr.nil n0
  rw [ef_15_24 m ]
  refine og s₁ (mkF m 3 #[vI (0 : Int32), vI (1 : Int32), vI (1 : Int32)] [(.int (1 : Int32)), (.int (1 : Int32)), (.int (0 : Int32))]) (fun _ k => XS.iloadN X0.here hx rfl (hb hby d15_0) rfl (XS.iloadN X0.here hx rfl (hb hby d15_1) rfl (XS.iloadN X0.here hx rfl (hb hby d15_2) rfl k))) ?_
  obtain ⟨T1, X1, e1, st1⟩ := getS2 X0 hx hZ hown (host := "") (Or.inl (own_w hw 76)) Via.refl e0 (O4.ext OLD.2) (g := (mkF m 3 #[vI (0 : Int32), vI (1 : Int32), vI (1 : Int32)] [(.int (1 : Int32)), (.int (1 : Int32)), (.int (0 : Int32))])) rfl (hb hby d15_3)
  refine og T1 (mkF m 6 #[vI (0 : Int32), vI (1 : Int32), vI (1 : Int32)] [G3, (.int (1 : Int32)), (.int (1 : Int32)), (.int (0 : Int32))]) st1 ?_
  obtain ⟨_, _, ⟨T2, L2, k2, n2⟩, -, X2, ⟨Lc2, hQ2, l2, y2, z2⟩, st2⟩ := Jvm.LawKit.callS X1 hx (y := y10) hown (mvT hZ (own_w hw 78)) (mvT hZ (own_w hw 79)) (mvT hZ (own_w hw 77)) (mvT hZ (own_w hw 80)) (by decide) (backOf (W := 0) (rm16_25 l Z a0 hw G3 h0 n0 OLD rG3) hZ (own_w hw 80) (own_w hw 77) (lb rfl) (lb rfl)) (g := (mkF m 6 #[vI (0 : Int32), vI (1 : Int32), vI (1 : Int32)] [G3, (.int (1 : Int32)), (.int (1 : Int32)), (.int (0 : Int32))])) rfl (by rw [hml]; rfl) (argsL := [(.int (0 : Int32)), (.int (1 : Int32)), (.int (1 : Int32)), G3]) (rest := []) (lenOf pd_9 rfl) rfl (lb rfl) (hb hby d15_6) (fun _ _ => ⟨rfl, e1, (lb rfl), (lb rfl)⟩)
  dsimp only [Pt.U, Pt.locs, Pt.cells, Pt.slots] at X2 l2 y2 z2 st2 hQ2
  subst l2 y2 z2
  obtain ⟨rfl, Nq2, eq2⟩ := hQ2
  have N2 := Fr.app N0 Nq2
  refine og T2 (mkF m 9 #[vI (0 : Int32), vI (1 : Int32), vI (1 : Int32)] [(.int (0 : Int32))]) st2 ?_
  refine og T2 (mkF m 10 #[vI (0 : Int32), vI (1 : Int32), vI (1 : Int32)] []) (fun _ k => XS.pop X2.here hx rfl (hb hby d15_9) rfl rfl k) ?_
  exact own_leaveN X2 hlk (v := none) (fun _ => rfl) (lb rfl) (lb rfl) (by rw [eq2]; exact ⟨rfl, N2, rfl⟩) (fun fs hr => X2.returnOut hx hret (hb hby d15_10) hr)
abbrev R14_23 : Room := { frames := 2, cells := 0, slots := 0, locals := 29 }
def Q14_23 (Z : State) (ra0 : Addr) (ra1 : Addr) (kc2 : ClassId) (ci3 : Int32) (G1 : Int32) (G3 : Value) (h0 : Heap) (n0 : Nat) (v : Option Value) (h : Heap) (L : List Loc) : Prop := (v = some (.ref ra0) ∧ Fr n0 L ∧ h = h0)
theorem rm14_23 (l : Launch) (Z : State) (a0 : Array Value) (hw : HW Z a0) (ra0 : Addr) (ra1 : Addr) (kc2 : ClassId) (ci3 : Int32) (G1 : Int32) (G3 : Value) (h0 : Heap) (n0 : Nat) (OLD : Old Z n0 h0) (E_ra0 : Exa Z h0 ra0 "java/lang/String") (F_coder_ra0 : Fld Z h0 ra0 "java/lang/String" "coder" "B" (.int (0 : Int32))) (F_value_ra0 : Fld Z h0 ra0 "java/lang/String" "value" "[B" (.ref ra1)) (hl_ci3 : ¬ ci3 < 0 ∧ ¬ (255 : Int32) < ci3) (V_ra1 : Arv Z h0 ra1 kc2 .byte (1 : Int32) [(.int (ci3.toInt8.toInt32))] (.int (0 : Int32))) (O2 : Sta Z Z.heap "java/lang/String" "COMPACT_STRINGS" "Z" (.int G1)) (P5 : ¬ (G1 = (0 : Int32))) (O4 : Sta Z Z.heap "jdk/internal/util/Preconditions" "SIOOBE_FORMATTER" "Ljava/util/function/BiFunction;" G3) (rG3 : G3.isRef = true) :
    own_CN l Z y12 jdk_42_method_92_code 5 (some (.object "java/lang/String")) [] R14_23 #[(.ref ra0), (.int (0 : Int32)), (.int (1 : Int32))] h0 (Q14_23 Z ra0 ra1 kc2 ci3 G1 G3 h0 n0) := by
  refine own_entryN (plainFor_of_name pn_1) fun p e s m below meth c s₁ hx hby hml hown hnm hret hlk hZ hh X0 e0 => ?_
  have N0 := Fr.nil n0
  rw [ef_14_23 m ra0]
  refine og s₁ (mkF m 1 #[vR ra0, vI (0 : Int32), vI (1 : Int32), vU, vU] [(.ref ra0)]) (fun _ k => XS.aloadN X0.here hx rfl (hb hby d14_0) rfl rfl k) ?_
  have hp1 : ∀ c ∈ ([ci3] : List Int32), ¬ c < 0 ∧ ¬ (255 : Int32) < c := by
    intro c hc
    simp only [List.mem_cons, List.not_mem_nil, or_false] at hc
    rcases hc with rfl
    · exact hl_ci3
  obtain ⟨cq2, kq2, q2a, q2b, q2c⟩ := isOf hZ e0 E_ra0
  obtain ⟨_, _, ⟨T2, L2, k2, n2⟩, -, X2, ⟨Lc2, hQ2, l2, y2, z2⟩, st2⟩ := X0.virtualBack hx (y := y3) (z := y3) hown (mvT hZ (own_w hw 36)) (mvT hZ (own_w hw 37)) (notFace_of_selects (args := #[]) (mvT hZ (own_w hw 39))) (mvT hZ (own_w hw 39)) (mvT hZ (own_w hw 38)) (by decide) (StrChars.Road.lenW (W := 0) hZ (own_hln hw) (kI := 4) (own_w hw 7) (cs := ([ci3] : List Int32)) E_ra0 F_value_ra0 F_coder_ra0 V_ra1 (StrChars.Road.codOf rfl (fun c hc => (hp1 c hc).2)) (own_up _ hp1) (O2.ext OLD.2) P5 (lb rfl) (lb rfl) (lb rfl)) q2a q2c (g := (mkF m 1 #[vR ra0, vI (0 : Int32), vI (1 : Int32), vU, vU] [(.ref ra0)])) rfl (by rw [hml]; rfl) (Steps.refl _) (argsL := []) (rest := []) (lenOf pd_3 rfl) rfl (lb rfl) (hb hby d14_1) (fun _ _ => ⟨rfl, e0, (lb rfl), (lb rfl)⟩)
  dsimp only [Pt.U, Pt.locs, Pt.cells, Pt.slots] at X2 l2 y2 z2 st2 hQ2
  subst l2 y2 z2
  obtain ⟨rfl, rfl, eq2⟩ := hQ2
  have N2 := Fr.app N0 (Fr.nil n0)
  refine ot T2 (mkF m 4 #[vR ra0, vI (0 : Int32), vI (1 : Int32), vU, vU] [(.int (1 : Int32))]) st2 ?_
  refine og T2 (mkF m 8 #[vR ra0, vI (0 : Int32), vI (1 : Int32), vI (1 : Int32), vU] [(.int (1 : Int32)), (.int (1 : Int32)), (.int (0 : Int32))]) (fun _ k => XS.istoreN X2.here hx rfl (hb hby d14_4) rfl (l' := #[vR ra0, vI (0 : Int32), vI (1 : Int32), vI (1 : Int32), vU]) rfl (XS.iloadN X2.here hx rfl (hb hby d14_5) rfl (XS.iloadN X2.here hx rfl (hb hby d14_6) rfl (XS.iloadN X2.here hx rfl (hb hby d14_7) rfl k)))) ?_
  obtain ⟨_, _, ⟨T3, L3, k3, n3⟩, -, X3, ⟨Lc3, hQ3, l3, y3, z3⟩, st3⟩ := Jvm.LawKit.callS X2 hx (y := y11) hown (mvT hZ (own_w hw 73)) (mvT hZ (own_w hw 74)) (mvT hZ (own_w hw 8)) (mvT hZ (own_w hw 75)) (by decide) (backOf (W := 0) (rm15_24 l Z a0 hw G3 h0 n0 OLD O4 rG3) hZ (own_w hw 75) (own_w hw 8) (lb rfl) (lb rfl)) (g := (mkF m 8 #[vR ra0, vI (0 : Int32), vI (1 : Int32), vI (1 : Int32), vU] [(.int (1 : Int32)), (.int (1 : Int32)), (.int (0 : Int32))])) rfl (by rw [hml]; rfl) (argsL := [(.int (0 : Int32)), (.int (1 : Int32)), (.int (1 : Int32))]) (rest := []) (lenOf pd_10 rfl) rfl (lb rfl) (hb hby d14_8) (fun _ _ => ⟨rfl, eq2, (lb rfl), (lb rfl)⟩)
  dsimp only [Pt.U, Pt.locs, Pt.cells, Pt.slots] at X3 l3 y3 z3 st3 hQ3
  subst l3 y3 z3
  obtain ⟨rfl, Nq3, eq3⟩ := hQ3
  have N3 := Fr.app N2 Nq3
  refine og T3 (mkF m 11 #[vR ra0, vI (0 : Int32), vI (1 : Int32), vI (1 : Int32), vU] []) st3 ?_
  refine og T3 (mkF m 21 #[vR ra0, vI (0 : Int32), vI (1 : Int32), vI (1 : Int32), vU] [(.ref ra0)]) (fun _ k => XS.iloadN X3.here hx rfl (hb hby d14_11) rfl (XS.ifNo X3.here hx rfl (hb hby d14_12) rfl ((if0 _ _).trans (teq (by decide : (0 : Int32) = (0 : Int32))).2) (XS.iloadN X3.here hx rfl (hb hby d14_15) rfl (XS.iloadN X3.here hx rfl (hb hby d14_16) rfl (XS.icmpNo X3.here hx rfl (hb hby d14_17) rfl (teq (by decide : (1 : Int32) = (1 : Int32))).2 (XS.aloadN X3.here hx rfl (hb hby d14_20) rfl rfl k)))))) ?_
  exact own_leaveN X3 hlk (v := some (.ref ra0)) (fun h => by rw [hret] at h; cases h) (lb rfl) (lb rfl) (by rw [eq3]; exact ⟨rfl, N3, rfl⟩) (fun fs hr => retOut X3 hx (t := (.object "java/lang/String")) hret rfl (Or.inr (Or.inr (Or.inr (Or.inr ⟨rfl, rfl, rfl⟩)))) (hb hby d14_21) hr)
abbrev R16_28 : Room := { frames := 0, cells := 0, slots := 0, locals := 0 }
def Q16_28 (Z : State) (cv0 : Value) (h0 : Heap) (n0 : Nat) (v : Option Value) (h : Heap) (L : List Loc) : Prop := (v = some (.int (0 : Int32)) ∧ Fr n0 L ∧ h = h0)
theorem rm16_28 (l : Launch) (Z : State) (a0 : Array Value) (hw : HW Z a0) (cv0 : Value) (h0 : Heap) (n0 : Nat) (OLD : Old Z n0 h0) (rf_cv0 : cv0.isRef = true) :
    own_CN l Z y10 jdk_41_method_12_code 4 (some .int) [] R16_28 #[(.int (0 : Int32)), (.int (0 : Int32)), (.int (1 : Int32)), cv0] h0 (Q16_28 Z cv0 h0 n0) := by
  refine own_entryN (plainFor_of_name pn_3) fun p e s m below meth c s₁ hx hby hml hown hnm hret hlk hZ hh X0 e0 => ?_
  have N0 := Fr.nil n0
  rw [ef_16_28 m cv0 rf_cv0]
  refine og s₁ (mkF m 23 #[vI (0 : Int32), vI (0 : Int32), vI (1 : Int32), .val cv0] [(.int (0 : Int32))]) (fun _ k => XS.iloadN X0.here hx rfl (hb hby d16_0) rfl (XS.ifNo X0.here hx rfl (hb hby d16_1) rfl ((if0 _ _).trans (flt (by decide : ¬ ((0 : Int32) < (0 : Int32)))).1) (XS.iloadN X0.here hx rfl (hb hby d16_4) rfl (XS.iloadN X0.here hx rfl (hb hby d16_5) rfl (XS.icmpNo X0.here hx rfl (hb hby d16_6) rfl (flt (by decide : ¬ ((0 : Int32) < (0 : Int32)))).2.2.1 (XS.iloadN X0.here hx rfl (hb hby d16_9) rfl (XS.iloadN X0.here hx rfl (hb hby d16_10) rfl (XS.icmpYes X0.here hx rfl (pc0 := 11) (pc' := 22) rfl (hb hby d16_11) rfl (flt (by decide : ¬ ((1 : Int32) < (0 : Int32)))).2.2.2 (by decide) (by decide) (XS.iloadN X0.here hx rfl (hb hby d16_22) rfl k))))))))) ?_
  exact own_leaveN X0 hlk (v := some (.int (0 : Int32))) (fun h => by rw [hret] at h; cases h) (lb rfl) (lb rfl) (by rw [e0]; exact ⟨rfl, N0, rfl⟩) (fun fs hr => retI X0 hx hret (hb hby d16_23) hr)
abbrev R15_27 : Room := { frames := 1, cells := 0, slots := 0, locals := 15 }
def Q15_27 (Z : State) (G3 : Value) (h0 : Heap) (n0 : Nat) (v : Option Value) (h : Heap) (L : List Loc) : Prop := (v = none ∧ Fr n0 L ∧ h = h0)
theorem rm15_27 (l : Launch) (Z : State) (a0 : Array Value) (hw : HW Z a0) (G3 : Value) (h0 : Heap) (n0 : Nat) (OLD : Old Z n0 h0) (O4 : Sta Z Z.heap "jdk/internal/util/Preconditions" "SIOOBE_FORMATTER" "Ljava/util/function/BiFunction;" G3) (rG3 : G3.isRef = true) :
    own_CN l Z y11 jdk_42_method_158_code 3 none [] R15_27 #[(.int (0 : Int32)), (.int (0 : Int32)), (.int (1 : Int32))] h0 (Q15_27 Z G3 h0 n0) := by
  refine own_entryN (plainFor_of_name pn_1) fun p e s m below meth c s₁ hx hby hml hown hnm hret hlk hZ hh X0 e0 => ?_
  have N0 := Fr.nil n0
  rw [ef_15_27 m ]
  refine og s₁ (mkF m 3 #[vI (0 : Int32), vI (0 : Int32), vI (1 : Int32)] [(.int (1 : Int32)), (.int (0 : Int32)), (.int (0 : Int32))]) (fun _ k => XS.iloadN X0.here hx rfl (hb hby d15_0) rfl (XS.iloadN X0.here hx rfl (hb hby d15_1) rfl (XS.iloadN X0.here hx rfl (hb hby d15_2) rfl k))) ?_
  obtain ⟨T1, X1, e1, st1⟩ := getS2 X0 hx hZ hown (host := "") (Or.inl (own_w hw 76)) Via.refl e0 (O4.ext OLD.2) (g := (mkF m 3 #[vI (0 : Int32), vI (0 : Int32), vI (1 : Int32)] [(.int (1 : Int32)), (.int (0 : Int32)), (.int (0 : Int32))])) rfl (hb hby d15_3)
  refine og T1 (mkF m 6 #[vI (0 : Int32), vI (0 : Int32), vI (1 : Int32)] [G3, (.int (1 : Int32)), (.int (0 : Int32)), (.int (0 : Int32))]) st1 ?_
  obtain ⟨_, _, ⟨T2, L2, k2, n2⟩, -, X2, ⟨Lc2, hQ2, l2, y2, z2⟩, st2⟩ := Jvm.LawKit.callS X1 hx (y := y10) hown (mvT hZ (own_w hw 78)) (mvT hZ (own_w hw 79)) (mvT hZ (own_w hw 77)) (mvT hZ (own_w hw 80)) (by decide) (backOf (W := 0) (rm16_28 l Z a0 hw G3 h0 n0 OLD rG3) hZ (own_w hw 80) (own_w hw 77) (lb rfl) (lb rfl)) (g := (mkF m 6 #[vI (0 : Int32), vI (0 : Int32), vI (1 : Int32)] [G3, (.int (1 : Int32)), (.int (0 : Int32)), (.int (0 : Int32))])) rfl (by rw [hml]; rfl) (argsL := [(.int (0 : Int32)), (.int (0 : Int32)), (.int (1 : Int32)), G3]) (rest := []) (lenOf pd_9 rfl) rfl (lb rfl) (hb hby d15_6) (fun _ _ => ⟨rfl, e1, (lb rfl), (lb rfl)⟩)
  dsimp only [Pt.U, Pt.locs, Pt.cells, Pt.slots] at X2 l2 y2 z2 st2 hQ2
  subst l2 y2 z2
  obtain ⟨rfl, Nq2, eq2⟩ := hQ2
  have N2 := Fr.app N0 Nq2
  refine og T2 (mkF m 9 #[vI (0 : Int32), vI (0 : Int32), vI (1 : Int32)] [(.int (0 : Int32))]) st2 ?_
  refine og T2 (mkF m 10 #[vI (0 : Int32), vI (0 : Int32), vI (1 : Int32)] []) (fun _ k => XS.pop X2.here hx rfl (hb hby d15_9) rfl rfl k) ?_
  exact own_leaveN X2 hlk (v := none) (fun _ => rfl) (lb rfl) (lb rfl) (by rw [eq2]; exact ⟨rfl, N2, rfl⟩) (fun fs hr => X2.returnOut hx hret (hb hby d15_10) hr)
abbrev R20_30 : Room := { frames := 0, cells := 2, slots := 4, locals := 0 }
def Q20_30 (Z : State) (ra0 : Addr) (kc1 : ClassId) (ci2 : Int32) (h0 : Heap) (n0 : Nat) (v : Option Value) (h : Heap) (L : List Loc) : Prop := (∃ (l1 : Addr) (lb1 : Addr) (lk1 : ClassId), v = some (.ref l1) ∧ Fr n0 L ∧ Keep h0 h [] ∧ l1 < h.size ∧ lb1 < h.size ∧ Exa Z h l1 "java/lang/String" ∧ Fld Z h l1 "java/lang/String" "coder" "B" (.int (0 : Int32)) ∧ Fld Z h l1 "java/lang/String" "value" "[B" (.ref lb1) ∧ Arv Z h lb1 lk1 .byte (0 : Int32) [] (.int (0 : Int32)))
theorem rm20_30 (l : Launch) (Z : State) (a0 : Array Value) (hw : HW Z a0) (ra0 : Addr) (kc1 : ClassId) (ci2 : Int32) (h0 : Heap) (n0 : Nat) (OLD : Old Z n0 h0) (hl_ci2 : ¬ ci2 < 0 ∧ ¬ (255 : Int32) < ci2) (V_ra0 : Arv Z h0 ra0 kc1 .byte (1 : Int32) [(.int (ci2.toInt8.toInt32))] (.int (0 : Int32))) :
    own_CW l Z y14 jdk_43_method_47_code 3 (some (.object "java/lang/String")) [] R20_30 #[(.ref ra0), (.int (0 : Int32)), (.int (0 : Int32))] h0 [] (Q20_30 Z ra0 kc1 ci2 h0 n0) := by
  refine own_entryW (plainFor_of_name pn_2) fun p e s m below meth c s₁ hx hby hml hown hnm hret hlk hZ hh hCH hSf X0 e0 => ?_
  have N0 := Fr.nil n0
  have hS0 : s.Since s.vm h0.size := own_since s _
  have hk0 : h0.size ≤ h0.size := Nat.le_refl _
  have CH0 : CHr Z own_EL s.vm h0 s.vm h0 := CHr.refl hCH
  rw [ef_20_30 m ra0]
  refine og s₁ (mkF m 4 #[vR ra0, vI (0 : Int32), vI (0 : Int32)] []) (fun _ k => XS.iloadN X0.here hx rfl (hb hby d20_0) rfl (XS.ifNo X0.here hx rfl (hb hby d20_1) rfl ((if0 _ _).trans (teq (by decide : (0 : Int32) = (0 : Int32))).2) k)) ?_
  obtain ⟨l1, T1, h1, k1, lb1, lk1, X1, e1, E1, hS1, hk1, hZ1, hown1, Ex1, Fc1, Fv1, Av1, la1, lz1, ch1, Lt1, sf1, st1⟩ := ldcCH X0 hx hZ hown (own_w hw 128) (own_wS hw) e0 hS0 hk0 (own_EW hw) (by decide) CH0.1 (vs := []) (z := (0 : Int32)) (by decide) (by decide) (by decide) (g := (mkF m 4 #[vR ra0, vI (0 : Int32), vI (0 : Int32)] [])) rfl (hb hby d20_4) (n := 0) (by decide) (by decide) (lb rfl) (lb rfl)
  have CH2 := CHr.trans CH0 ch1
  refine og T1 (mkF m 6 #[vR ra0, vI (0 : Int32), vI (0 : Int32)] [(.ref l1)]) st1 ?_
  have KEEP := ((Keep.refl h0 []).ext E1)
  exact own_leaveW (s := s) (vm0 := T1.vm) X1 hS1 hk1 hZ1 (own_EW hw) e1 CH2 hh hlk (v := some (.ref l1)) (fun h => by rw [hret] at h; cases h) (lb rfl) (lb rfl) (by rw [e1]; exact ⟨l1, lb1, lk1, rfl, N0, KEEP, la1, lz1, Ex1, Fc1, Fv1, Av1⟩) (fun fs hr => retOut X1 hx (t := (.object "java/lang/String")) hret rfl (Or.inr (Or.inr (Or.inr (Or.inr ⟨rfl, rfl, rfl⟩)))) (hb hby d20_6) hr)
abbrev R14_31 : Room := { frames := 2, cells := 2, slots := 4, locals := 29 }
def Q14_31 (Z : State) (ra0 : Addr) (ra1 : Addr) (kc2 : ClassId) (ci3 : Int32) (G1 : Int32) (G3 : Value) (h0 : Heap) (n0 : Nat) (v : Option Value) (h : Heap) (L : List Loc) : Prop := (∃ (o7 : Addr) (o8 : Addr) (kc9 : ClassId), v = some (.ref o7) ∧ Fr n0 L ∧ Keep h0 h [] ∧ o7 < h.size ∧ o8 < h.size ∧ Exa Z h o7 "java/lang/String" ∧ Fld Z h o7 "java/lang/String" "coder" "B" (.int (0 : Int32)) ∧ Fld Z h o7 "java/lang/String" "value" "[B" (.ref o8) ∧ Arv Z h o8 kc9 .byte (0 : Int32) [] (.int (0 : Int32)))
theorem rm14_31 (l : Launch) (Z : State) (a0 : Array Value) (hw : HW Z a0) (ra0 : Addr) (ra1 : Addr) (kc2 : ClassId) (ci3 : Int32) (G1 : Int32) (G3 : Value) (h0 : Heap) (n0 : Nat) (OLD : Old Z n0 h0) (E_ra0 : Exa Z h0 ra0 "java/lang/String") (F_coder_ra0 : Fld Z h0 ra0 "java/lang/String" "coder" "B" (.int (0 : Int32))) (F_value_ra0 : Fld Z h0 ra0 "java/lang/String" "value" "[B" (.ref ra1)) (hl_ci3 : ¬ ci3 < 0 ∧ ¬ (255 : Int32) < ci3) (V_ra1 : Arv Z h0 ra1 kc2 .byte (1 : Int32) [(.int (ci3.toInt8.toInt32))] (.int (0 : Int32))) (O2 : Sta Z Z.heap "java/lang/String" "COMPACT_STRINGS" "Z" (.int G1)) (P5 : ¬ (G1 = (0 : Int32))) (O4 : Sta Z Z.heap "jdk/internal/util/Preconditions" "SIOOBE_FORMATTER" "Ljava/util/function/BiFunction;" G3) (rG3 : G3.isRef = true) :
    own_CW l Z y12 jdk_42_method_92_code 5 (some (.object "java/lang/String")) [] R14_31 #[(.ref ra0), (.int (0 : Int32)), (.int (0 : Int32))] h0 [] (Q14_31 Z ra0 ra1 kc2 ci3 G1 G3 h0 n0) := by
  refine own_entryW (plainFor_of_name pn_1) fun p e s m below meth c s₁ hx hby hml hown hnm hret hlk hZ hh hCH hSf X0 e0 => ?_
  have N0 := Fr.nil n0
  have hS0 : s.Since s.vm h0.size := own_since s _
  have hk0 : h0.size ≤ h0.size := Nat.le_refl _
  have CH0 : CHr Z own_EL s.vm h0 s.vm h0 := CHr.refl hCH
  rw [ef_14_31 m ra0]
  refine og s₁ (mkF m 1 #[vR ra0, vI (0 : Int32), vI (0 : Int32), vU, vU] [(.ref ra0)]) (fun _ k => XS.aloadN X0.here hx rfl (hb hby d14_0) rfl rfl k) ?_
  have hp1 : ∀ c ∈ ([ci3] : List Int32), ¬ c < 0 ∧ ¬ (255 : Int32) < c := by
    intro c hc
    simp only [List.mem_cons, List.not_mem_nil, or_false] at hc
    rcases hc with rfl
    · exact hl_ci3
  obtain ⟨cq2, kq2, q2a, q2b, q2c⟩ := isOf hZ e0 E_ra0
  obtain ⟨_, _, ⟨T2, L2, k2, n2⟩, -, X2, ⟨Lc2, hQ2, l2, y2, z2⟩, st2⟩ := X0.virtualBack hx (y := y3) (z := y3) hown (mvT hZ (own_w hw 36)) (mvT hZ (own_w hw 37)) (notFace_of_selects (args := #[]) (mvT hZ (own_w hw 39))) (mvT hZ (own_w hw 39)) (mvT hZ (own_w hw 38)) (by decide) (StrChars.Road.lenW (W := 0) hZ (own_hln hw) (kI := 4) (own_w hw 7) (cs := ([ci3] : List Int32)) E_ra0 F_value_ra0 F_coder_ra0 V_ra1 (StrChars.Road.codOf rfl (fun c hc => (hp1 c hc).2)) (own_up _ hp1) (O2.ext OLD.2) P5 (lb rfl) (lb rfl) (lb rfl)) q2a q2c (g := (mkF m 1 #[vR ra0, vI (0 : Int32), vI (0 : Int32), vU, vU] [(.ref ra0)])) rfl (by rw [hml]; rfl) (Steps.refl _) (argsL := []) (rest := []) (lenOf pd_3 rfl) rfl (lb rfl) (hb hby d14_1) (fun _ _ => ⟨rfl, e0, (lb rfl), (lb rfl)⟩)
  dsimp only [Pt.U, Pt.locs, Pt.cells, Pt.slots] at X2 l2 y2 z2 st2 hQ2
  subst l2 y2 z2
  obtain ⟨rfl, rfl, eq2⟩ := hQ2
  have N2 := Fr.app N0 (Fr.nil n0)
  refine ot T2 (mkF m 4 #[vR ra0, vI (0 : Int32), vI (0 : Int32), vU, vU] [(.int (1 : Int32))]) st2 ?_
  refine og T2 (mkF m 8 #[vR ra0, vI (0 : Int32), vI (0 : Int32), vI (1 : Int32), vU] [(.int (1 : Int32)), (.int (0 : Int32)), (.int (0 : Int32))]) (fun _ k => XS.istoreN X2.here hx rfl (hb hby d14_4) rfl (l' := #[vR ra0, vI (0 : Int32), vI (0 : Int32), vI (1 : Int32), vU]) rfl (XS.iloadN X2.here hx rfl (hb hby d14_5) rfl (XS.iloadN X2.here hx rfl (hb hby d14_6) rfl (XS.iloadN X2.here hx rfl (hb hby d14_7) rfl k)))) ?_
  obtain ⟨_, _, ⟨T3, L3, k3, n3⟩, -, X3, ⟨Lc3, hQ3, l3, y3, z3⟩, st3⟩ := Jvm.LawKit.callS X2 hx (y := y11) hown (mvT hZ (own_w hw 73)) (mvT hZ (own_w hw 74)) (mvT hZ (own_w hw 8)) (mvT hZ (own_w hw 75)) (by decide) (backOf (W := 0) (rm15_27 l Z a0 hw G3 h0 n0 OLD O4 rG3) hZ (own_w hw 75) (own_w hw 8) (lb rfl) (lb rfl)) (g := (mkF m 8 #[vR ra0, vI (0 : Int32), vI (0 : Int32), vI (1 : Int32), vU] [(.int (1 : Int32)), (.int (0 : Int32)), (.int (0 : Int32))])) rfl (by rw [hml]; rfl) (argsL := [(.int (0 : Int32)), (.int (0 : Int32)), (.int (1 : Int32))]) (rest := []) (lenOf pd_10 rfl) rfl (lb rfl) (hb hby d14_8) (fun _ _ => ⟨rfl, eq2, (lb rfl), (lb rfl)⟩)
  dsimp only [Pt.U, Pt.locs, Pt.cells, Pt.slots] at X3 l3 y3 z3 st3 hQ3
  subst l3 y3 z3
  obtain ⟨rfl, Nq3, eq3⟩ := hQ3
  have N3 := Fr.app N2 Nq3
  refine og T3 (mkF m 11 #[vR ra0, vI (0 : Int32), vI (0 : Int32), vI (1 : Int32), vU] []) st3 ?_
  refine og T3 (mkF m 28 #[vR ra0, vI (0 : Int32), vI (0 : Int32), vI (1 : Int32), vI (0 : Int32)] [(.ref ra0)]) (fun _ k => XS.iloadN X3.here hx rfl (hb hby d14_11) rfl (XS.ifNo X3.here hx rfl (hb hby d14_12) rfl ((if0 _ _).trans (teq (by decide : (0 : Int32) = (0 : Int32))).2) (XS.iloadN X3.here hx rfl (hb hby d14_15) rfl (XS.iloadN X3.here hx rfl (hb hby d14_16) rfl (XS.icmpYes X3.here hx rfl (pc0 := 17) (pc' := 22) rfl (hb hby d14_17) rfl (feq (by decide : ¬ ((0 : Int32) = (1 : Int32)))).2 (by decide) (by decide) (XS.iloadN X3.here hx rfl (hb hby d14_22) rfl (XS.iloadN X3.here hx rfl (hb hby d14_23) rfl (XS.isub X3.here hx rfl (hb hby d14_24) rfl (XS.istore X3.here hx rfl (hb hby d14_25) rfl (l' := #[vR ra0, vI (0 : Int32), vI (0 : Int32), vI (1 : Int32), vI (0 : Int32)]) rfl (XS.aloadN X3.here hx rfl (hb hby d14_27) rfl rfl k)))))))))) ?_
  obtain ⟨cq4, kq4, q4a, q4b, q4c⟩ := isOf hZ eq3 E_ra0
  obtain ⟨_, _, ⟨T4, L4, k4, n4⟩, -, X4, ⟨Lc4, hQ4, l4, y4, z4⟩, st4⟩ := X3.virtualBack hx (y := y4) (z := y4) hown (mvT hZ (own_w hw 52)) (mvT hZ (own_w hw 53)) (notFace_of_selects (args := #[]) (mvT hZ (own_w hw 55))) (mvT hZ (own_w hw 55)) (mvT hZ (own_w hw 54)) (by decide) (backOf (W := 0) (rm10_20 l Z a0 hw ra0 ra1 kc2 ci3 G1 h0 n0 OLD E_ra0 F_coder_ra0 F_value_ra0 hl_ci3 V_ra1 O2 P5) hZ (own_w hw 56) (own_w hw 8) (lb rfl) (lb rfl)) q4a q4c (g := (mkF m 28 #[vR ra0, vI (0 : Int32), vI (0 : Int32), vI (1 : Int32), vI (0 : Int32)] [(.ref ra0)])) rfl (by rw [hml]; rfl) (Steps.refl _) (argsL := []) (rest := []) (lenOf pd_4 rfl) rfl (lb rfl) (hb hby d14_28) (fun _ _ => ⟨rfl, eq3, (lb rfl), (lb rfl)⟩)
  dsimp only [Pt.U, Pt.locs, Pt.cells, Pt.slots] at X4 l4 y4 z4 st4 hQ4
  subst l4 y4 z4
  obtain ⟨rfl, Nq4, eq4⟩ := hQ4
  have N4 := Fr.app N3 Nq4
  refine ot T4 (mkF m 31 #[vR ra0, vI (0 : Int32), vI (0 : Int32), vI (1 : Int32), vI (0 : Int32)] [(.int (1 : Int32))]) st4 ?_
  refine og T4 (mkF m 35 #[vR ra0, vI (0 : Int32), vI (0 : Int32), vI (1 : Int32), vI (0 : Int32)] [(.ref ra0)]) (fun _ k => XS.ifNo X4.here hx rfl (hb hby d14_31) rfl ((if0 _ _).trans (feq (by decide : ¬ ((1 : Int32) = (0 : Int32)))).1) (XS.aloadN X4.here hx rfl (hb hby d14_34) rfl rfl k)) ?_
  obtain ⟨T5, X5, e5, st5⟩ := getF X4 hx hZ hown (host := "") (Or.inl (own_w hw 25)) Via.refl eq4 F_value_ra0 (g := (mkF m 35 #[vR ra0, vI (0 : Int32), vI (0 : Int32), vI (1 : Int32), vI (0 : Int32)] [(.ref ra0)])) rfl rfl (hb hby d14_35)
  refine og T5 (mkF m 38 #[vR ra0, vI (0 : Int32), vI (0 : Int32), vI (1 : Int32), vI (0 : Int32)] [(.ref ra1)]) st5 ?_
  refine og T5 (mkF m 41 #[vR ra0, vI (0 : Int32), vI (0 : Int32), vI (1 : Int32), vI (0 : Int32)] [(.int (0 : Int32)), (.int (0 : Int32)), (.ref ra1)]) (fun _ k => XS.iloadN X5.here hx rfl (hb hby d14_38) rfl (XS.iload X5.here hx rfl (hb hby d14_39) rfl k)) ?_
  obtain ⟨_, _, ⟨T6, L6, k6, n6⟩, -, X6, hs6, hg6, ⟨Lc6, hQ6, l6, y6, z6, ch6⟩, st6⟩ := callSS X5 hx (y := y14) hown (mvT hZ (own_w hw 92)) (mvT hZ (own_w hw 93)) (mvT hZ (own_w hw 59)) (mvT hZ (own_w hw 94)) (by decide) (own_backSH (W := 0) (rm20_30 l Z a0 hw ra1 kc2 ci3 h0 n0 OLD hl_ci3 V_ra1) hZ (own_w hw 94) (own_w hw 59) (lb rfl) (lb rfl) (own_EW hw) CH0.1 all0) (g := (mkF m 41 #[vR ra0, vI (0 : Int32), vI (0 : Int32), vI (1 : Int32), vI (0 : Int32)] [(.int (0 : Int32)), (.int (0 : Int32)), (.ref ra1)])) rfl (by rw [hml]; rfl) (argsL := [(.ref ra1), (.int (0 : Int32)), (.int (0 : Int32))]) (rest := []) (lenOf pd_13 rfl) rfl (lb rfl) (hb hby d14_41) (fun _ _ => ⟨rfl, e5, (lb rfl), (lb rfl)⟩)
  dsimp only [Pt.U, Pt.locs, Pt.cells, Pt.slots] at X6 l6 y6 z6 st6 hQ6 hs6 hg6 ch6
  subst l6 y6 z6
  replace X6 := own_reb X6
  obtain ⟨hZ6, hS6, hown6⟩ := own_after hZ hS0 e5 hk0 hs6 hg6 hown
  obtain ⟨o7, o8, kc9, rfl, Nq6, K6, f10, f11, f12, f13, f14, f15⟩ := hQ6
  have N6 := Fr.app N4 Nq6
  have CH16 := CHr.trans CH0 ch6
  refine ot T6 (mkF m 44 #[vR ra0, vI (0 : Int32), vI (0 : Int32), vI (1 : Int32), vI (0 : Int32)] [(.ref o7)]) st6 ?_
  refine og T6 (mkF m 57 #[vR ra0, vI (0 : Int32), vI (0 : Int32), vI (1 : Int32), vI (0 : Int32)] [(.ref o7)]) (fun _ k => XS.goto X6.here hx rfl (pc0 := 44) (pc' := 57) rfl (hb hby d14_44) (by decide) (by decide) k) ?_
  have KEEP := ((Keep.refl h0 []).trans K6 all0)
  exact own_leaveW (s := s) (vm0 := T6.vm) X6 hS6 (Nat.le_refl _) hZ6 (own_EW hw) rfl CH16 hh hlk (v := some (.ref o7)) (fun h => by rw [hret] at h; cases h) (lb rfl) (lb rfl) (by exact ⟨o7, o8, kc9, rfl, N6, KEEP, f10, f11, f12, f13, f14, f15⟩) (fun fs hr => retOut X6 hx (t := (.object "java/lang/String")) hret rfl (Or.inr (Or.inr (Or.inr (Or.inr ⟨rfl, rfl, rfl⟩)))) (hb hby d14_57) hr)
abbrev R5_32 : Room := { frames := 4, cells := 2, slots := 4, locals := 57 }
def Q5_32 (Z : State) (ra0 : Addr) (ra1 : Addr) (kc2 : ClassId) (ci3 : Int32) (G1 : Int32) (G3 : Value) (h0 : Heap) (n0 : Nat) (v : Option Value) (h : Heap) (L : List Loc) : Prop := ((ci3.toInt8.toInt32) = (46 : Int32) ∧ v = some (.ref ra0) ∧ Fr n0 L ∧ h = h0) ∨ (∃ (o6 : Addr) (o7 : Addr) (kc8 : ClassId), (¬ ((ci3.toInt8.toInt32) = (46 : Int32))) ∧ v = some (.ref o6) ∧ Fr n0 L ∧ Keep h0 h [] ∧ o6 < h.size ∧ o7 < h.size ∧ Exa Z h o6 "java/lang/String" ∧ Fld Z h o6 "java/lang/String" "coder" "B" (.int (0 : Int32)) ∧ Fld Z h o6 "java/lang/String" "value" "[B" (.ref o7) ∧ Arv Z h o7 kc8 .byte (0 : Int32) [] (.int (0 : Int32)))
theorem rm5_32 (l : Launch) (Z : State) (a0 : Array Value) (hw : HW Z a0) (ra0 : Addr) (ra1 : Addr) (kc2 : ClassId) (ci3 : Int32) (G1 : Int32) (G3 : Value) (h0 : Heap) (n0 : Nat) (OLD : Old Z n0 h0) (E_ra0 : Exa Z h0 ra0 "java/lang/String") (F_coder_ra0 : Fld Z h0 ra0 "java/lang/String" "coder" "B" (.int (0 : Int32))) (F_value_ra0 : Fld Z h0 ra0 "java/lang/String" "value" "[B" (.ref ra1)) (hl_ci3 : ¬ ci3 < 0 ∧ ¬ (255 : Int32) < ci3) (V_ra1 : Arv Z h0 ra1 kc2 .byte (1 : Int32) [(.int (ci3.toInt8.toInt32))] (.int (0 : Int32))) (O2 : Sta Z Z.heap "java/lang/String" "COMPACT_STRINGS" "Z" (.int G1)) (P5 : ¬ (G1 = (0 : Int32))) (O4 : Sta Z Z.heap "jdk/internal/util/Preconditions" "SIOOBE_FORMATTER" "Ljava/util/function/BiFunction;" G3) (rG3 : G3.isRef = true) :
    own_CW l Z y13 prog_41_method_5_code 1 (some (.object "java/lang/String")) [] R5_32 #[(.ref ra0)] h0 [] (Q5_32 Z ra0 ra1 kc2 ci3 G1 G3 h0 n0) := by
  refine own_entryW (plainFor_of_name pn_4) fun p e s m below meth c s₁ hx hby hml hown hnm hret hlk hZ hh hCH hSf X0 e0 => ?_
  have N0 := Fr.nil n0
  have hS0 : s.Since s.vm h0.size := own_since s _
  have hk0 : h0.size ≤ h0.size := Nat.le_refl _
  have CH0 : CHr Z own_EL s.vm h0 s.vm h0 := CHr.refl hCH
  rw [ef_5_32 m ra0]
  refine og s₁ (mkF m 5 #[vR ra0] [(.int (46 : Int32)), (.ref ra0), (.int (0 : Int32)), (.ref ra0)]) (fun _ k => XS.aloadN X0.here hx rfl (hb hby d5_0) rfl rfl (XS.iconst X0.here hx rfl (hb hby d5_1) (XS.aloadN X0.here hx rfl (hb hby d5_2) rfl rfl (XS.bipush X0.here hx rfl (hb hby d5_3) k)))) ?_
  obtain ⟨cq1, kq1, q1a, q1b, q1c⟩ := isOf hZ e0 E_ra0
  obtain ⟨_, _, ⟨T1, L1, k1, n1⟩, -, X1, ⟨Lc1, hQ1, l1, y1, z1⟩, st1⟩ := X0.virtualBack hx (y := y9) (z := y9) hown (mvT hZ (own_w hw 31)) (mvT hZ (own_w hw 32)) (notFace_of_selects (args := #[]) (mvT hZ (own_w hw 34))) (mvT hZ (own_w hw 34)) (mvT hZ (own_w hw 33)) (by decide) (backOf (W := 2) (rm6_18 l Z a0 hw ra0 ra1 kc2 ci3 G1 h0 n0 OLD E_ra0 F_coder_ra0 F_value_ra0 hl_ci3 V_ra1 O2 P5) hZ (own_w hw 35) (own_w hw 8) (lb rfl) (lb rfl)) q1a q1c (g := (mkF m 5 #[vR ra0] [(.int (46 : Int32)), (.ref ra0), (.int (0 : Int32)), (.ref ra0)])) rfl (by rw [hml]; rfl) (Steps.refl _) (argsL := [(.int (46 : Int32))]) (rest := [(.int (0 : Int32)), (.ref ra0)]) (lenOf pd_8 rfl) rfl (lb rfl) (hb hby d5_5) (fun _ _ => ⟨rfl, e0, (lb rfl), (lb rfl)⟩)
  dsimp only [Pt.U, Pt.locs, Pt.cells, Pt.slots] at X1 l1 y1 z1 st1 hQ1
  subst l1 y1 z1
  rcases hQ1 with hQ1 | hQ1
  · obtain ⟨hc2, rfl, Nq1, eq1⟩ := hQ1
    have N1 := Fr.app N0 Nq1
    refine ot T1 (mkF m 8 #[vR ra0] [(.int (0 : Int32)), (.int (0 : Int32)), (.ref ra0)]) st1 ?_
    refine og T1 (mkF m 10 #[vR ra0] [(.int (1 : Int32)), (.int (0 : Int32)), (.ref ra0)]) (fun _ k => XS.iconst X1.here hx rfl (hb hby d5_8) (XS.iadd X1.here hx rfl (hb hby d5_9) rfl k)) ?_
    obtain ⟨cq3, kq3, q3a, q3b, q3c⟩ := isOf hZ eq1 E_ra0
    obtain ⟨_, _, ⟨T3, L3, k3, n3⟩, -, X3, ⟨Lc3, hQ3, l3, y3, z3⟩, st3⟩ := X1.virtualBack hx (y := y12) (z := y12) hown (mvT hZ (own_w hw 68)) (mvT hZ (own_w hw 69)) (notFace_of_selects (args := #[]) (mvT hZ (own_w hw 71))) (mvT hZ (own_w hw 71)) (mvT hZ (own_w hw 70)) (by decide) (backOf (W := 0) (rm14_23 l Z a0 hw ra0 ra1 kc2 ci3 G1 G3 h0 n0 OLD E_ra0 F_coder_ra0 F_value_ra0 hl_ci3 V_ra1 O2 P5 O4 rG3) hZ (own_w hw 72) (own_w hw 8) (lb rfl) (lb rfl)) q3a q3c (g := (mkF m 10 #[vR ra0] [(.int (1 : Int32)), (.int (0 : Int32)), (.ref ra0)])) rfl (by rw [hml]; rfl) (Steps.refl _) (argsL := [(.int (0 : Int32)), (.int (1 : Int32))]) (rest := []) (lenOf pd_11 rfl) rfl (lb rfl) (hb hby d5_10) (fun _ _ => ⟨rfl, eq1, (lb rfl), (lb rfl)⟩)
    dsimp only [Pt.U, Pt.locs, Pt.cells, Pt.slots] at X3 l3 y3 z3 st3 hQ3
    subst l3 y3 z3
    obtain ⟨rfl, Nq3, eq3⟩ := hQ3
    have N3 := Fr.app N1 Nq3
    refine ot T3 (mkF m 13 #[vR ra0] [(.ref ra0)]) st3 ?_
    exact own_leaveW (s := s) (vm0 := s.vm) X3 hS0 hk0 hZ (own_EW hw) eq3 CH0 hh hlk (v := some (.ref ra0)) (fun h => by rw [hret] at h; cases h) (lb rfl) (lb rfl) (by rw [eq3]; exact (Or.inl ⟨hc2, rfl, N3, rfl⟩)) (fun fs hr => retOut X3 hx (t := (.object "java/lang/String")) hret rfl (Or.inr (Or.inr (Or.inr (Or.inr ⟨rfl, rfl, rfl⟩)))) (hb hby d5_13) hr)
  · obtain ⟨hc4, rfl, Nq1, eq1⟩ := hQ1
    have N1 := Fr.app N0 Nq1
    refine ot T1 (mkF m 8 #[vR ra0] [(.int (-1 : Int32)), (.int (0 : Int32)), (.ref ra0)]) st1 ?_
    refine og T1 (mkF m 10 #[vR ra0] [(.int (0 : Int32)), (.int (0 : Int32)), (.ref ra0)]) (fun _ k => XS.iconst X1.here hx rfl (hb hby d5_8) (XS.iadd X1.here hx rfl (hb hby d5_9) rfl k)) ?_
    obtain ⟨cq5, kq5, q5a, q5b, q5c⟩ := isOf hZ eq1 E_ra0
    obtain ⟨_, _, ⟨T5, L5, k5, n5⟩, -, X5, hs5, hg5, ⟨Lc5, hQ5, l5, y5, z5, ch5⟩, st5⟩ := X1.virtualBackS hx (y := y12) (z := y12) hown (mvT hZ (own_w hw 68)) (mvT hZ (own_w hw 69)) (notFace_of_selects (args := #[]) (mvT hZ (own_w hw 71))) (mvT hZ (own_w hw 71)) (mvT hZ (own_w hw 70)) (by decide) (own_backSH (W := 0) (rm14_31 l Z a0 hw ra0 ra1 kc2 ci3 G1 G3 h0 n0 OLD E_ra0 F_coder_ra0 F_value_ra0 hl_ci3 V_ra1 O2 P5 O4 rG3) hZ (own_w hw 72) (own_w hw 8) (lb rfl) (lb rfl) (own_EW hw) CH0.1 all0) q5a q5c (g := (mkF m 10 #[vR ra0] [(.int (0 : Int32)), (.int (0 : Int32)), (.ref ra0)])) rfl (by rw [hml]; rfl) (Steps.refl _) (argsL := [(.int (0 : Int32)), (.int (0 : Int32))]) (rest := []) (lenOf pd_11 rfl) rfl (lb rfl) (hb hby d5_10) (fun _ _ => ⟨rfl, eq1, (lb rfl), (lb rfl)⟩)
    dsimp only [Pt.U, Pt.locs, Pt.cells, Pt.slots] at X5 l5 y5 z5 st5 hQ5 hs5 hg5 ch5
    subst l5 y5 z5
    replace X5 := own_reb X5
    obtain ⟨hZ5, hS5, hown5⟩ := own_after hZ hS0 eq1 hk0 hs5 hg5 hown
    obtain ⟨o6, o7, kc8, rfl, Nq5, K5, f9, f10, f11, f12, f13, f14⟩ := hQ5
    have N5 := Fr.app N1 Nq5
    have CH15 := CHr.trans CH0 ch5
    refine ot T5 (mkF m 13 #[vR ra0] [(.ref o6)]) st5 ?_
    have KEEP := ((Keep.refl h0 []).trans K5 all0)
    exact own_leaveW (s := s) (vm0 := T5.vm) X5 hS5 (Nat.le_refl _) hZ5 (own_EW hw) rfl CH15 hh hlk (v := some (.ref o6)) (fun h => by rw [hret] at h; cases h) (lb rfl) (lb rfl) (by exact (Or.inr ⟨o6, o7, kc8, hc4, rfl, N5, KEEP, f9, f10, f11, f12, f13, f14⟩)) (fun fs hr => retOut X5 hx (t := (.object "java/lang/String")) hret rfl (Or.inr (Or.inr (Or.inr (Or.inr ⟨rfl, rfl, rfl⟩)))) (hb hby d5_13) hr)
abbrev R10_36 : Room := { frames := 0, cells := 0, slots := 0, locals := 0 }
def Q10_36 (Z : State) (ra0 : Addr) (ra1 : Addr) (kc2 : ClassId) (ci3 : Int32) (ci4 : Int32) (G1 : Int32) (h0 : Heap) (n0 : Nat) (v : Option Value) (h : Heap) (L : List Loc) : Prop := (v = some (.int (1 : Int32)) ∧ Fr n0 L ∧ h = h0)
theorem rm10_36 (l : Launch) (Z : State) (a0 : Array Value) (hw : HW Z a0) (ra0 : Addr) (ra1 : Addr) (kc2 : ClassId) (ci3 : Int32) (ci4 : Int32) (G1 : Int32) (h0 : Heap) (n0 : Nat) (OLD : Old Z n0 h0) (E_ra0 : Exa Z h0 ra0 "java/lang/String") (F_coder_ra0 : Fld Z h0 ra0 "java/lang/String" "coder" "B" (.int (0 : Int32))) (F_value_ra0 : Fld Z h0 ra0 "java/lang/String" "value" "[B" (.ref ra1)) (hl_ci3 : ¬ ci3 < 0 ∧ ¬ (255 : Int32) < ci3) (hl_ci4 : ¬ ci4 < 0 ∧ ¬ (255 : Int32) < ci4) (V_ra1 : Arv Z h0 ra1 kc2 .byte (2 : Int32) [(.int (ci3.toInt8.toInt32)), (.int (ci4.toInt8.toInt32))] (.int (0 : Int32))) (O2 : Sta Z Z.heap "java/lang/String" "COMPACT_STRINGS" "Z" (.int G1)) (P5 : ¬ (G1 = (0 : Int32))) :
    own_CN l Z y4 jdk_42_method_154_code 1 (some .boolean) [] R10_36 #[(.ref ra0)] h0 (Q10_36 Z ra0 ra1 kc2 ci3 ci4 G1 h0 n0) := by
  refine own_entryN (plainFor_of_name pn_1) fun p e s m below meth c s₁ hx hby hml hown hnm hret hlk hZ hh X0 e0 => ?_
  have N0 := Fr.nil n0
  rw [ef_10_36 m ra0]
  obtain ⟨T1, X1, e1, st1⟩ := getS2 X0 hx hZ hown (host := "") (Or.inl (own_w hw 46)) Via.refl e0 (O2.ext OLD.2) (g := (mkF m 0 #[vR ra0] [])) rfl (hb hby d10_0)
  refine og T1 (mkF m 3 #[vR ra0] [(.int G1)]) st1 ?_
  refine og T1 (mkF m 7 #[vR ra0] [(.ref ra0)]) (fun _ k => XS.ifNo X1.here hx rfl (hb hby d10_3) rfl ((if0 _ _).trans (feq P5).1) (XS.aloadN X1.here hx rfl (hb hby d10_6) rfl rfl k)) ?_
  obtain ⟨T2, X2, e2, st2⟩ := getF X1 hx hZ hown (host := "") (Or.inl (own_w hw 26)) Via.refl e1 F_coder_ra0 (g := (mkF m 7 #[vR ra0] [(.ref ra0)])) rfl rfl (hb hby d10_7)
  refine og T2 (mkF m 10 #[vR ra0] [(.int (0 : Int32))]) st2 ?_
  refine og T2 (mkF m 18 #[vR ra0] [(.int (1 : Int32))]) (fun _ k => XS.ifNo X2.here hx rfl (hb hby d10_10) rfl ((if0 _ _).trans (teq (by decide : (0 : Int32) = (0 : Int32))).2) (XS.iconst X2.here hx rfl (hb hby d10_13) (XS.goto X2.here hx rfl (pc0 := 14) (pc' := 18) rfl (hb hby d10_14) (by decide) (by decide) k))) ?_
  exact own_leaveN X2 hlk (v := some (.int (nar .boolean (1 : Int32)))) (fun h => by rw [hret] at h; cases h) (lb rfl) (lb rfl) (by rw [e2]; exact ⟨rfl, N0, rfl⟩) (fun fs hr => retN X2 hx (t := .boolean) hret (by simp) (hb hby d10_18) hr)
abbrev R13_38 : Room := { frames := 0, cells := 0, slots := 0, locals := 0 }
def Q13_38 (Z : State)  (h0 : Heap) (n0 : Nat) (v : Option Value) (h : Heap) (L : List Loc) : Prop := (v = some (.int (1 : Int32)) ∧ Fr n0 L ∧ h = h0)
theorem rm13_38 (l : Launch) (Z : State) (a0 : Array Value) (hw : HW Z a0)  (h0 : Heap) (n0 : Nat) (OLD : Old Z n0 h0) :
    own_CN l Z y6 jdk_29_method_69_code 2 (some .int) [] R13_38 #[(.int (1 : Int32)), (.int (1 : Int32))] h0 (Q13_38 Z  h0 n0) := by
  refine own_entryN (Jvm.Free.JP.mathPlain rfl (by decide +kernel)) fun p e s m below meth c s₁ hx hby hml hown hnm hret hlk hZ hh X0 e0 => ?_
  have N0 := Fr.nil n0
  rw [ef_13_38 m ]
  refine og s₁ (mkF m 10 #[vI (1 : Int32), vI (1 : Int32)] [(.int (1 : Int32))]) (fun _ k => XS.iloadN X0.here hx rfl (hb hby d13_0) rfl (XS.iloadN X0.here hx rfl (hb hby d13_1) rfl (XS.icmpNo X0.here hx rfl (hb hby d13_2) rfl (flt (by decide : ¬ ((1 : Int32) < (1 : Int32)))).2.2.1 (XS.iloadN X0.here hx rfl (hb hby d13_5) rfl (XS.goto X0.here hx rfl (pc0 := 6) (pc' := 10) rfl (hb hby d13_6) (by decide) (by decide) k))))) ?_
  exact own_leaveN X0 hlk (v := some (.int (1 : Int32))) (fun h => by rw [hret] at h; cases h) (lb rfl) (lb rfl) (by rw [e0]; exact ⟨rfl, N0, rfl⟩) (fun fs hr => retI X0 hx hret (hb hby d13_10) hr)
abbrev R11_37 : Room := { frames := 1, cells := 0, slots := 0, locals := 13 }
def Q11_37 (Z : State) (ra0 : Addr) (kc1 : ClassId) (ci2 : Int32) (ci3 : Int32) (h0 : Heap) (n0 : Nat) (v : Option Value) (h : Heap) (L : List Loc) : Prop := ((ci3.toInt8.toInt32) = (46 : Int32) ∧ v = some (.int (1 : Int32)) ∧ Fr n0 L ∧ h = h0) ∨ ((¬ ((ci3.toInt8.toInt32) = (46 : Int32))) ∧ (ci2.toInt8.toInt32) = (46 : Int32) ∧ v = some (.int (0 : Int32)) ∧ Fr n0 L ∧ h = h0) ∨ ((¬ ((ci3.toInt8.toInt32) = (46 : Int32))) ∧ (¬ ((ci2.toInt8.toInt32) = (46 : Int32))) ∧ v = some (.int (-1 : Int32)) ∧ Fr n0 L ∧ h = h0)
theorem rm11_37 (l : Launch) (Z : State) (a0 : Array Value) (hw : HW Z a0) (ra0 : Addr) (kc1 : ClassId) (ci2 : Int32) (ci3 : Int32) (h0 : Heap) (n0 : Nat) (OLD : Old Z n0 h0) (hl_ci2 : ¬ ci2 < 0 ∧ ¬ (255 : Int32) < ci2) (hl_ci3 : ¬ ci3 < 0 ∧ ¬ (255 : Int32) < ci3) (V_ra0 : Arv Z h0 ra0 kc1 .byte (2 : Int32) [(.int (ci2.toInt8.toInt32)), (.int (ci3.toInt8.toInt32))] (.int (0 : Int32))) :
    own_CN l Z y7 jdk_43_method_27_code 4 (some .int) [] R11_37 #[(.ref ra0), (.int (46 : Int32)), (.int (1 : Int32))] h0 (Q11_37 Z ra0 kc1 ci2 ci3 h0 n0) := by
  refine own_entryN (plainFor_of_name pn_2) fun p e s m below meth c s₁ hx hby hml hown hnm hret hlk hZ hh X0 e0 => ?_
  have N0 := Fr.nil n0
  rw [ef_11_37 m ra0]
  refine og s₁ (mkF m 1 #[vR ra0, vI (46 : Int32), vI (1 : Int32), vU] [(.int (46 : Int32))]) (fun _ k => XS.iloadN X0.here hx rfl (hb hby d11_0) rfl k) ?_
  obtain ⟨_, _, ⟨T1, L1, k1, n1⟩, -, X1, ⟨Lc1, hQ1, l1, y1, z1⟩, st1⟩ := Jvm.LawKit.callS X0 hx (y := y5) hown (mvT hZ (own_w hw 61)) (mvT hZ (own_w hw 62)) (mvT hZ (own_w hw 59)) (mvT hZ (own_w hw 63)) (by decide) (backOf (W := 0) (rm12_12 l Z a0 hw  h0 n0 OLD ) hZ (own_w hw 63) (own_w hw 59) (lb rfl) (lb rfl)) (g := (mkF m 1 #[vR ra0, vI (46 : Int32), vI (1 : Int32), vU] [(.int (46 : Int32))])) rfl (by rw [hml]; rfl) (argsL := [(.int (46 : Int32))]) (rest := []) (lenOf pd_5 rfl) rfl (lb rfl) (hb hby d11_1) (fun _ _ => ⟨rfl, e0, (lb rfl), (lb rfl)⟩)
  dsimp only [Pt.U, Pt.locs, Pt.cells, Pt.slots] at X1 l1 y1 z1 st1 hQ1
  subst l1 y1 z1
  obtain ⟨rfl, Nq1, eq1⟩ := hQ1
  have N1 := Fr.app N0 Nq1
  refine og T1 (mkF m 4 #[vR ra0, vI (46 : Int32), vI (1 : Int32), vU] [(.int (1 : Int32))]) st1 ?_
  refine og T1 (mkF m 11 #[vR ra0, vI (46 : Int32), vI (1 : Int32), vU] [(.ref ra0), (.int (1 : Int32))]) (fun _ k => XS.ifYes X1.here hx rfl (pc0 := 4) (pc' := 9) rfl (hb hby d11_4) rfl ((if0 _ _).trans (feq (by decide : ¬ ((1 : Int32) = (0 : Int32)))).2) (by decide) (by decide) (XS.iloadN X1.here hx rfl (hb hby d11_9) rfl (XS.aloadN X1.here hx rfl (hb hby d11_10) rfl rfl k))) ?_
  obtain ⟨cl2, Ar2, -, Sr2, Nr2, -, -⟩ := id V_ra0
  refine og T1 (mkF m 12 #[vR ra0, vI (46 : Int32), vI (1 : Int32), vU] [(.int (2 : Int32)), (.int (1 : Int32))]) (fun t k => X1.arraylength hx (by rw [eq1]; exact Ar2.1) (State.isArrayOf_alike hZ.alike Ar2.2.1) (g := (mkF m 11 #[vR ra0, vI (46 : Int32), vI (1 : Int32), vU] [(.ref ra0), (.int (1 : Int32))])) rfl rfl (hb hby d11_11) t (by rw [len_of Sr2 Nr2]; exact k)) ?_
  refine og T1 (mkF m 14 #[vR ra0, vI (46 : Int32), vI (1 : Int32), vU] [(.int (1 : Int32)), (.int (1 : Int32))]) (fun _ k => XS.iconst X1.here hx rfl (hb hby d11_12) (XS.isub X1.here hx rfl (hb hby d11_13) rfl k)) ?_
  obtain ⟨_, _, ⟨T3, L3, k3, n3⟩, -, X3, ⟨Lc3, hQ3, l3, y3, z3⟩, st3⟩ := Jvm.LawKit.callS X1 hx (y := y6) hown (mvT hZ (own_w hw 64)) (mvT hZ (own_w hw 65)) (mvT hZ (own_w hw 66)) (mvT hZ (own_w hw 67)) (by decide) (backOf (W := 0) (rm13_38 l Z a0 hw  h0 n0 OLD ) hZ (own_w hw 67) (own_w hw 66) (lb rfl) (lb rfl)) (g := (mkF m 14 #[vR ra0, vI (46 : Int32), vI (1 : Int32), vU] [(.int (1 : Int32)), (.int (1 : Int32))])) rfl (by rw [hml]; rfl) (argsL := [(.int (1 : Int32)), (.int (1 : Int32))]) (rest := []) (lenOf pd_6 rfl) rfl (lb rfl) (hb hby d11_14) (fun _ _ => ⟨rfl, eq1, (lb rfl), (lb rfl)⟩)
  dsimp only [Pt.U, Pt.locs, Pt.cells, Pt.slots] at X3 l3 y3 z3 st3 hQ3
  subst l3 y3 z3
  obtain ⟨rfl, Nq3, eq3⟩ := hQ3
  have N3 := Fr.app N1 Nq3
  refine og T3 (mkF m 17 #[vR ra0, vI (46 : Int32), vI (1 : Int32), vU] [(.int (1 : Int32))]) st3 ?_
  refine og T3 (mkF m 24 #[vR ra0, vI (46 : Int32), vI (1 : Int32), vI (1 : Int32)] [(.int (1 : Int32)), (.ref ra0)]) (fun _ k => XS.istoreN X3.here hx rfl (hb hby d11_17) rfl (l' := #[vR ra0, vI (46 : Int32), vI (1 : Int32), vI (1 : Int32)]) rfl (XS.iloadN X3.here hx rfl (hb hby d11_18) rfl (XS.ifNo X3.here hx rfl (hb hby d11_19) rfl ((if0 _ _).trans (flt (by decide : ¬ ((1 : Int32) < (0 : Int32)))).1) (XS.aloadN X3.here hx rfl (hb hby d11_22) rfl rfl (XS.iloadN X3.here hx rfl (hb hby d11_23) rfl k))))) ?_
  obtain ⟨cl4, Ar4, qr4, Sr4, Nr4, Hr4, Gr4⟩ := id V_ra0
  have hi4 : ¬ ((1 : Int32) < 0 ∨ cl4.slots.size ≤ ((1 : Int32)).toNatClampNeg) := inb_of Sr4 ⟨by decide, by decide⟩
  refine og T3 (mkF m 25 #[vR ra0, vI (46 : Int32), vI (1 : Int32), vI (1 : Int32)] [(.int (ci3.toInt8.toInt32))]) (fun t k => X3.baloadBytes hx (j := (1 : Int32)) (v := (.int (ci3.toInt8.toInt32))) (by rw [eq3]; exact Ar4.1) (State.isArrayOf_alike hZ.alike Ar4.2.1) Ar4.2.2 hi4 (Has.at Hr4 hi4 rfl) (g := (mkF m 24 #[vR ra0, vI (46 : Int32), vI (1 : Int32), vI (1 : Int32)] [(.int (1 : Int32)), (.ref ra0)])) rfl rfl (hb hby d11_24) t k) ?_
  refine og T3 (mkF m 27 #[vR ra0, vI (46 : Int32), vI (1 : Int32), vI (1 : Int32)] [(.int (46 : Int32)), (.int (ci3.toInt8.toInt32))]) (fun _ k => XS.iloadN X3.here hx rfl (hb hby d11_25) rfl (XS.i2b X3.here hx rfl (hb hby d11_26) rfl k)) ?_
  by_cases hc5 : (ci3.toInt8.toInt32) = (46 : Int32)
  · refine og T3 (mkF m 31 #[vR ra0, vI (46 : Int32), vI (1 : Int32), vI (1 : Int32)] [(.int (1 : Int32))]) (fun _ k => XS.icmpNo X3.here hx rfl (hb hby d11_27) rfl (teq hc5).2 (XS.iloadN X3.here hx rfl (hb hby d11_30) rfl k)) ?_
    exact own_leaveN X3 hlk (v := some (.int (1 : Int32))) (fun h => by rw [hret] at h; cases h) (lb rfl) (lb rfl) (by rw [eq3]; exact (Or.inl ⟨hc5, rfl, N3, rfl⟩)) (fun fs hr => retI X3 hx hret (hb hby d11_31) hr)
  · refine og T3 (mkF m 24 #[vR ra0, vI (46 : Int32), vI (1 : Int32), vI (0 : Int32)] [(.int (0 : Int32)), (.ref ra0)]) (fun _ k => XS.icmpYes X3.here hx rfl (pc0 := 27) (pc' := 32) rfl (hb hby d11_27) rfl (feq hc5).2 (by decide) (by decide) (XS.iinc X3.here hx rfl (hb hby d11_32) rfl (l' := #[vR ra0, vI (46 : Int32), vI (1 : Int32), vI (0 : Int32)]) rfl (XS.goto X3.here hx rfl (pc0 := 35) (pc' := 18) rfl (hb hby d11_35) (by decide) (by decide) (XS.iloadN X3.here hx rfl (hb hby d11_18) rfl (XS.ifNo X3.here hx rfl (hb hby d11_19) rfl ((if0 _ _).trans (flt (by decide : ¬ ((0 : Int32) < (0 : Int32)))).1) (XS.aloadN X3.here hx rfl (hb hby d11_22) rfl rfl (XS.iloadN X3.here hx rfl (hb hby d11_23) rfl k))))))) ?_
    obtain ⟨cl6, Ar6, qr6, Sr6, Nr6, Hr6, Gr6⟩ := id V_ra0
    have hi6 : ¬ ((0 : Int32) < 0 ∨ cl6.slots.size ≤ ((0 : Int32)).toNatClampNeg) := inb_of Sr6 ⟨by decide, by decide⟩
    refine og T3 (mkF m 25 #[vR ra0, vI (46 : Int32), vI (1 : Int32), vI (0 : Int32)] [(.int (ci2.toInt8.toInt32))]) (fun t k => X3.baloadBytes hx (j := (0 : Int32)) (v := (.int (ci2.toInt8.toInt32))) (by rw [eq3]; exact Ar6.1) (State.isArrayOf_alike hZ.alike Ar6.2.1) Ar6.2.2 hi6 (Has.at Hr6 hi6 rfl) (g := (mkF m 24 #[vR ra0, vI (46 : Int32), vI (1 : Int32), vI (0 : Int32)] [(.int (0 : Int32)), (.ref ra0)])) rfl rfl (hb hby d11_24) t k) ?_
    refine og T3 (mkF m 27 #[vR ra0, vI (46 : Int32), vI (1 : Int32), vI (0 : Int32)] [(.int (46 : Int32)), (.int (ci2.toInt8.toInt32))]) (fun _ k => XS.iloadN X3.here hx rfl (hb hby d11_25) rfl (XS.i2b X3.here hx rfl (hb hby d11_26) rfl k)) ?_
    by_cases hc7 : (ci2.toInt8.toInt32) = (46 : Int32)
    · refine og T3 (mkF m 31 #[vR ra0, vI (46 : Int32), vI (1 : Int32), vI (0 : Int32)] [(.int (0 : Int32))]) (fun _ k => XS.icmpNo X3.here hx rfl (hb hby d11_27) rfl (teq hc7).2 (XS.iloadN X3.here hx rfl (hb hby d11_30) rfl k)) ?_
      exact own_leaveN X3 hlk (v := some (.int (0 : Int32))) (fun h => by rw [hret] at h; cases h) (lb rfl) (lb rfl) (by rw [eq3]; exact (Or.inr (Or.inl ⟨hc5, hc7, rfl, N3, rfl⟩))) (fun fs hr => retI X3 hx hret (hb hby d11_31) hr)
    · refine og T3 (mkF m 39 #[vR ra0, vI (46 : Int32), vI (1 : Int32), vI (-1 : Int32)] [(.int (-1 : Int32))]) (fun _ k => XS.icmpYes X3.here hx rfl (pc0 := 27) (pc' := 32) rfl (hb hby d11_27) rfl (feq hc7).2 (by decide) (by decide) (XS.iinc X3.here hx rfl (hb hby d11_32) rfl (l' := #[vR ra0, vI (46 : Int32), vI (1 : Int32), vI (-1 : Int32)]) rfl (XS.goto X3.here hx rfl (pc0 := 35) (pc' := 18) rfl (hb hby d11_35) (by decide) (by decide) (XS.iloadN X3.here hx rfl (hb hby d11_18) rfl (XS.ifYes X3.here hx rfl (pc0 := 19) (pc' := 38) rfl (hb hby d11_19) rfl ((if0 _ _).trans (tlt (by decide : (-1 : Int32) < (0 : Int32))).1) (by decide) (by decide) (XS.iconst X3.here hx rfl (hb hby d11_38) k)))))) ?_
      exact own_leaveN X3 hlk (v := some (.int (-1 : Int32))) (fun h => by rw [hret] at h; cases h) (lb rfl) (lb rfl) (by rw [eq3]; exact (Or.inr (Or.inr ⟨hc5, hc7, rfl, N3, rfl⟩))) (fun fs hr => retI X3 hx hret (hb hby d11_39) hr)
abbrev R9_35 : Room := { frames := 2, cells := 0, slots := 0, locals := 28 }
def Q9_35 (Z : State) (ra0 : Addr) (ra1 : Addr) (kc2 : ClassId) (ci3 : Int32) (ci4 : Int32) (G1 : Int32) (h0 : Heap) (n0 : Nat) (v : Option Value) (h : Heap) (L : List Loc) : Prop := ((ci4.toInt8.toInt32) = (46 : Int32) ∧ v = some (.int (1 : Int32)) ∧ Fr n0 L ∧ h = h0) ∨ ((¬ ((ci4.toInt8.toInt32) = (46 : Int32))) ∧ (ci3.toInt8.toInt32) = (46 : Int32) ∧ v = some (.int (0 : Int32)) ∧ Fr n0 L ∧ h = h0) ∨ ((¬ ((ci4.toInt8.toInt32) = (46 : Int32))) ∧ (¬ ((ci3.toInt8.toInt32) = (46 : Int32))) ∧ v = some (.int (-1 : Int32)) ∧ Fr n0 L ∧ h = h0)
theorem rm9_35 (l : Launch) (Z : State) (a0 : Array Value) (hw : HW Z a0) (ra0 : Addr) (ra1 : Addr) (kc2 : ClassId) (ci3 : Int32) (ci4 : Int32) (G1 : Int32) (h0 : Heap) (n0 : Nat) (OLD : Old Z n0 h0) (E_ra0 : Exa Z h0 ra0 "java/lang/String") (F_coder_ra0 : Fld Z h0 ra0 "java/lang/String" "coder" "B" (.int (0 : Int32))) (F_value_ra0 : Fld Z h0 ra0 "java/lang/String" "value" "[B" (.ref ra1)) (hl_ci3 : ¬ ci3 < 0 ∧ ¬ (255 : Int32) < ci3) (hl_ci4 : ¬ ci4 < 0 ∧ ¬ (255 : Int32) < ci4) (V_ra1 : Arv Z h0 ra1 kc2 .byte (2 : Int32) [(.int (ci3.toInt8.toInt32)), (.int (ci4.toInt8.toInt32))] (.int (0 : Int32))) (O2 : Sta Z Z.heap "java/lang/String" "COMPACT_STRINGS" "Z" (.int G1)) (P5 : ¬ (G1 = (0 : Int32))) :
    own_CN l Z y8 jdk_42_method_83_code 3 (some .int) [] R9_35 #[(.ref ra0), (.int (46 : Int32)), (.int (1 : Int32))] h0 (Q9_35 Z ra0 ra1 kc2 ci3 ci4 G1 h0 n0) := by
  refine own_entryN (plainFor_of_name pn_1) fun p e s m below meth c s₁ hx hby hml hown hnm hret hlk hZ hh X0 e0 => ?_
  have N0 := Fr.nil n0
  rw [ef_9_35 m ra0]
  refine og s₁ (mkF m 1 #[vR ra0, vI (46 : Int32), vI (1 : Int32)] [(.ref ra0)]) (fun _ k => XS.aloadN X0.here hx rfl (hb hby d9_0) rfl rfl k) ?_
  obtain ⟨cq1, kq1, q1a, q1b, q1c⟩ := isOf hZ e0 E_ra0
  obtain ⟨_, _, ⟨T1, L1, k1, n1⟩, -, X1, ⟨Lc1, hQ1, l1, y1, z1⟩, st1⟩ := X0.virtualBack hx (y := y4) (z := y4) hown (mvT hZ (own_w hw 52)) (mvT hZ (own_w hw 53)) (notFace_of_selects (args := #[]) (mvT hZ (own_w hw 55))) (mvT hZ (own_w hw 55)) (mvT hZ (own_w hw 54)) (by decide) (backOf (W := 0) (rm10_36 l Z a0 hw ra0 ra1 kc2 ci3 ci4 G1 h0 n0 OLD E_ra0 F_coder_ra0 F_value_ra0 hl_ci3 hl_ci4 V_ra1 O2 P5) hZ (own_w hw 56) (own_w hw 8) (lb rfl) (lb rfl)) q1a q1c (g := (mkF m 1 #[vR ra0, vI (46 : Int32), vI (1 : Int32)] [(.ref ra0)])) rfl (by rw [hml]; rfl) (Steps.refl _) (argsL := []) (rest := []) (lenOf pd_4 rfl) rfl (lb rfl) (hb hby d9_1) (fun _ _ => ⟨rfl, e0, (lb rfl), (lb rfl)⟩)
  dsimp only [Pt.U, Pt.locs, Pt.cells, Pt.slots] at X1 l1 y1 z1 st1 hQ1
  subst l1 y1 z1
  obtain ⟨rfl, Nq1, eq1⟩ := hQ1
  have N1 := Fr.app N0 Nq1
  refine ot T1 (mkF m 4 #[vR ra0, vI (46 : Int32), vI (1 : Int32)] [(.int (1 : Int32))]) st1 ?_
  refine og T1 (mkF m 8 #[vR ra0, vI (46 : Int32), vI (1 : Int32)] [(.ref ra0)]) (fun _ k => XS.ifNo X1.here hx rfl (hb hby d9_4) rfl ((if0 _ _).trans (feq (by decide : ¬ ((1 : Int32) = (0 : Int32)))).1) (XS.aloadN X1.here hx rfl (hb hby d9_7) rfl rfl k)) ?_
  obtain ⟨T2, X2, e2, st2⟩ := getF X1 hx hZ hown (host := "") (Or.inl (own_w hw 25)) Via.refl eq1 F_value_ra0 (g := (mkF m 8 #[vR ra0, vI (46 : Int32), vI (1 : Int32)] [(.ref ra0)])) rfl rfl (hb hby d9_8)
  refine og T2 (mkF m 11 #[vR ra0, vI (46 : Int32), vI (1 : Int32)] [(.ref ra1)]) st2 ?_
  refine og T2 (mkF m 13 #[vR ra0, vI (46 : Int32), vI (1 : Int32)] [(.int (1 : Int32)), (.int (46 : Int32)), (.ref ra1)]) (fun _ k => XS.iloadN X2.here hx rfl (hb hby d9_11) rfl (XS.iloadN X2.here hx rfl (hb hby d9_12) rfl k)) ?_
  obtain ⟨_, _, ⟨T3, L3, k3, n3⟩, -, X3, ⟨Lc3, hQ3, l3, y3, z3⟩, st3⟩ := Jvm.LawKit.callS X2 hx (y := y7) hown (mvT hZ (own_w hw 57)) (mvT hZ (own_w hw 58)) (mvT hZ (own_w hw 59)) (mvT hZ (own_w hw 60)) (by decide) (backOf (W := 0) (rm11_37 l Z a0 hw ra1 kc2 ci3 ci4 h0 n0 OLD hl_ci3 hl_ci4 V_ra1) hZ (own_w hw 60) (own_w hw 59) (lb rfl) (lb rfl)) (g := (mkF m 13 #[vR ra0, vI (46 : Int32), vI (1 : Int32)] [(.int (1 : Int32)), (.int (46 : Int32)), (.ref ra1)])) rfl (by rw [hml]; rfl) (argsL := [(.ref ra1), (.int (46 : Int32)), (.int (1 : Int32))]) (rest := []) (lenOf pd_7 rfl) rfl (lb rfl) (hb hby d9_13) (fun _ _ => ⟨rfl, e2, (lb rfl), (lb rfl)⟩)
  dsimp only [Pt.U, Pt.locs, Pt.cells, Pt.slots] at X3 l3 y3 z3 st3 hQ3
  subst l3 y3 z3
  rcases hQ3 with hQ3 | hQ3 | hQ3
  · obtain ⟨hc4, rfl, Nq3, eq3⟩ := hQ3
    have N3 := Fr.app N1 Nq3
    refine og T3 (mkF m 16 #[vR ra0, vI (46 : Int32), vI (1 : Int32)] [(.int (1 : Int32))]) st3 ?_
    refine og T3 (mkF m 28 #[vR ra0, vI (46 : Int32), vI (1 : Int32)] [(.int (1 : Int32))]) (fun _ k => XS.goto X3.here hx rfl (pc0 := 16) (pc' := 28) rfl (hb hby d9_16) (by decide) (by decide) k) ?_
    exact own_leaveN X3 hlk (v := some (.int (1 : Int32))) (fun h => by rw [hret] at h; cases h) (lb rfl) (lb rfl) (by rw [eq3]; exact (Or.inl ⟨hc4, rfl, N3, rfl⟩)) (fun fs hr => retI X3 hx hret (hb hby d9_28) hr)
  · obtain ⟨hc5, hc6, rfl, Nq3, eq3⟩ := hQ3
    have N3 := Fr.app N1 Nq3
    refine og T3 (mkF m 16 #[vR ra0, vI (46 : Int32), vI (1 : Int32)] [(.int (0 : Int32))]) st3 ?_
    refine og T3 (mkF m 28 #[vR ra0, vI (46 : Int32), vI (1 : Int32)] [(.int (0 : Int32))]) (fun _ k => XS.goto X3.here hx rfl (pc0 := 16) (pc' := 28) rfl (hb hby d9_16) (by decide) (by decide) k) ?_
    exact own_leaveN X3 hlk (v := some (.int (0 : Int32))) (fun h => by rw [hret] at h; cases h) (lb rfl) (lb rfl) (by rw [eq3]; exact (Or.inr (Or.inl ⟨hc5, hc6, rfl, N3, rfl⟩))) (fun fs hr => retI X3 hx hret (hb hby d9_28) hr)
  · obtain ⟨hc7, hc8, rfl, Nq3, eq3⟩ := hQ3
    have N3 := Fr.app N1 Nq3
    refine og T3 (mkF m 16 #[vR ra0, vI (46 : Int32), vI (1 : Int32)] [(.int (-1 : Int32))]) st3 ?_
    refine og T3 (mkF m 28 #[vR ra0, vI (46 : Int32), vI (1 : Int32)] [(.int (-1 : Int32))]) (fun _ k => XS.goto X3.here hx rfl (pc0 := 16) (pc' := 28) rfl (hb hby d9_16) (by decide) (by decide) k) ?_
    exact own_leaveN X3 hlk (v := some (.int (-1 : Int32))) (fun h => by rw [hret] at h; cases h) (lb rfl) (lb rfl) (by rw [eq3]; exact (Or.inr (Or.inr ⟨hc7, hc8, rfl, N3, rfl⟩))) (fun fs hr => retI X3 hx hret (hb hby d9_28) hr)
abbrev R6_34 : Room := { frames := 3, cells := 0, slots := 0, locals := 42 }
def Q6_34 (Z : State) (ra0 : Addr) (ra1 : Addr) (kc2 : ClassId) (ci3 : Int32) (ci4 : Int32) (G1 : Int32) (h0 : Heap) (n0 : Nat) (v : Option Value) (h : Heap) (L : List Loc) : Prop := ((ci4.toInt8.toInt32) = (46 : Int32) ∧ v = some (.int (1 : Int32)) ∧ Fr n0 L ∧ h = h0) ∨ ((¬ ((ci4.toInt8.toInt32) = (46 : Int32))) ∧ (ci3.toInt8.toInt32) = (46 : Int32) ∧ v = some (.int (0 : Int32)) ∧ Fr n0 L ∧ h = h0) ∨ ((¬ ((ci4.toInt8.toInt32) = (46 : Int32))) ∧ (¬ ((ci3.toInt8.toInt32) = (46 : Int32))) ∧ v = some (.int (-1 : Int32)) ∧ Fr n0 L ∧ h = h0)
theorem rm6_34 (l : Launch) (Z : State) (a0 : Array Value) (hw : HW Z a0) (ra0 : Addr) (ra1 : Addr) (kc2 : ClassId) (ci3 : Int32) (ci4 : Int32) (G1 : Int32) (h0 : Heap) (n0 : Nat) (OLD : Old Z n0 h0) (E_ra0 : Exa Z h0 ra0 "java/lang/String") (F_coder_ra0 : Fld Z h0 ra0 "java/lang/String" "coder" "B" (.int (0 : Int32))) (F_value_ra0 : Fld Z h0 ra0 "java/lang/String" "value" "[B" (.ref ra1)) (hl_ci3 : ¬ ci3 < 0 ∧ ¬ (255 : Int32) < ci3) (hl_ci4 : ¬ ci4 < 0 ∧ ¬ (255 : Int32) < ci4) (V_ra1 : Arv Z h0 ra1 kc2 .byte (2 : Int32) [(.int (ci3.toInt8.toInt32)), (.int (ci4.toInt8.toInt32))] (.int (0 : Int32))) (O2 : Sta Z Z.heap "java/lang/String" "COMPACT_STRINGS" "Z" (.int G1)) (P5 : ¬ (G1 = (0 : Int32))) :
    own_CN l Z y9 jdk_42_method_82_code 2 (some .int) [] R6_34 #[(.ref ra0), (.int (46 : Int32))] h0 (Q6_34 Z ra0 ra1 kc2 ci3 ci4 G1 h0 n0) := by
  refine own_entryN (plainFor_of_name pn_1) fun p e s m below meth c s₁ hx hby hml hown hnm hret hlk hZ hh X0 e0 => ?_
  have N0 := Fr.nil n0
  rw [ef_6_34 m ra0]
  refine og s₁ (mkF m 3 #[vR ra0, vI (46 : Int32)] [(.ref ra0), (.int (46 : Int32)), (.ref ra0)]) (fun _ k => XS.aloadN X0.here hx rfl (hb hby d6_0) rfl rfl (XS.iloadN X0.here hx rfl (hb hby d6_1) rfl (XS.aloadN X0.here hx rfl (hb hby d6_2) rfl rfl k))) ?_
  have hp1 : ∀ c ∈ ([ci3, ci4] : List Int32), ¬ c < 0 ∧ ¬ (255 : Int32) < c := by
    intro c hc
    simp only [List.mem_cons, List.not_mem_nil, or_false] at hc
    rcases hc with rfl | rfl
    · exact hl_ci3
    · exact hl_ci4
  obtain ⟨cq2, kq2, q2a, q2b, q2c⟩ := isOf hZ e0 E_ra0
  obtain ⟨_, _, ⟨T2, L2, k2, n2⟩, -, X2, ⟨Lc2, hQ2, l2, y2, z2⟩, st2⟩ := X0.virtualBack hx (y := y3) (z := y3) hown (mvT hZ (own_w hw 36)) (mvT hZ (own_w hw 37)) (notFace_of_selects (args := #[]) (mvT hZ (own_w hw 39))) (mvT hZ (own_w hw 39)) (mvT hZ (own_w hw 38)) (by decide) (StrChars.Road.lenW (W := 2) hZ (own_hln hw) (kI := 4) (own_w hw 7) (cs := ([ci3, ci4] : List Int32)) E_ra0 F_value_ra0 F_coder_ra0 V_ra1 (StrChars.Road.codOf rfl (fun c hc => (hp1 c hc).2)) (own_up _ hp1) (O2.ext OLD.2) P5 (lb rfl) (lb rfl) (lb rfl)) q2a q2c (g := (mkF m 3 #[vR ra0, vI (46 : Int32)] [(.ref ra0), (.int (46 : Int32)), (.ref ra0)])) rfl (by rw [hml]; rfl) (Steps.refl _) (argsL := []) (rest := [(.int (46 : Int32)), (.ref ra0)]) (lenOf pd_3 rfl) rfl (lb rfl) (hb hby d6_3) (fun _ _ => ⟨rfl, e0, (lb rfl), (lb rfl)⟩)
  dsimp only [Pt.U, Pt.locs, Pt.cells, Pt.slots] at X2 l2 y2 z2 st2 hQ2
  subst l2 y2 z2
  obtain ⟨rfl, rfl, eq2⟩ := hQ2
  have N2 := Fr.app N0 (Fr.nil n0)
  refine ot T2 (mkF m 6 #[vR ra0, vI (46 : Int32)] [(.int (2 : Int32)), (.int (46 : Int32)), (.ref ra0)]) st2 ?_
  refine og T2 (mkF m 8 #[vR ra0, vI (46 : Int32)] [(.int (1 : Int32)), (.int (46 : Int32)), (.ref ra0)]) (fun _ k => XS.iconst X2.here hx rfl (hb hby d6_6) (XS.isub X2.here hx rfl (hb hby d6_7) rfl k)) ?_
  obtain ⟨cq3, kq3, q3a, q3b, q3c⟩ := isOf hZ eq2 E_ra0
  obtain ⟨_, _, ⟨T3, L3, k3, n3⟩, -, X3, ⟨Lc3, hQ3, l3, y3, z3⟩, st3⟩ := X2.virtualBack hx (y := y8) (z := y8) hown (mvT hZ (own_w hw 47)) (mvT hZ (own_w hw 48)) (notFace_of_selects (args := #[]) (mvT hZ (own_w hw 50))) (mvT hZ (own_w hw 50)) (mvT hZ (own_w hw 49)) (by decide) (backOf (W := 0) (rm9_35 l Z a0 hw ra0 ra1 kc2 ci3 ci4 G1 h0 n0 OLD E_ra0 F_coder_ra0 F_value_ra0 hl_ci3 hl_ci4 V_ra1 O2 P5) hZ (own_w hw 51) (own_w hw 8) (lb rfl) (lb rfl)) q3a q3c (g := (mkF m 8 #[vR ra0, vI (46 : Int32)] [(.int (1 : Int32)), (.int (46 : Int32)), (.ref ra0)])) rfl (by rw [hml]; rfl) (Steps.refl _) (argsL := [(.int (46 : Int32)), (.int (1 : Int32))]) (rest := []) (lenOf pd_6 rfl) rfl (lb rfl) (hb hby d6_8) (fun _ _ => ⟨rfl, eq2, (lb rfl), (lb rfl)⟩)
  dsimp only [Pt.U, Pt.locs, Pt.cells, Pt.slots] at X3 l3 y3 z3 st3 hQ3
  subst l3 y3 z3
  rcases hQ3 with hQ3 | hQ3 | hQ3
  · obtain ⟨hc4, rfl, Nq3, eq3⟩ := hQ3
    have N3 := Fr.app N2 Nq3
    refine ot T3 (mkF m 11 #[vR ra0, vI (46 : Int32)] [(.int (1 : Int32))]) st3 ?_
    exact own_leaveN X3 hlk (v := some (.int (1 : Int32))) (fun h => by rw [hret] at h; cases h) (lb rfl) (lb rfl) (by rw [eq3]; exact (Or.inl ⟨hc4, rfl, N3, rfl⟩)) (fun fs hr => retI X3 hx hret (hb hby d6_11) hr)
  · obtain ⟨hc5, hc6, rfl, Nq3, eq3⟩ := hQ3
    have N3 := Fr.app N2 Nq3
    refine ot T3 (mkF m 11 #[vR ra0, vI (46 : Int32)] [(.int (0 : Int32))]) st3 ?_
    exact own_leaveN X3 hlk (v := some (.int (0 : Int32))) (fun h => by rw [hret] at h; cases h) (lb rfl) (lb rfl) (by rw [eq3]; exact (Or.inr (Or.inl ⟨hc5, hc6, rfl, N3, rfl⟩))) (fun fs hr => retI X3 hx hret (hb hby d6_11) hr)
  · obtain ⟨hc7, hc8, rfl, Nq3, eq3⟩ := hQ3
    have N3 := Fr.app N2 Nq3
    refine ot T3 (mkF m 11 #[vR ra0, vI (46 : Int32)] [(.int (-1 : Int32))]) st3 ?_
    exact own_leaveN X3 hlk (v := some (.int (-1 : Int32))) (fun h => by rw [hret] at h; cases h) (lb rfl) (lb rfl) (by rw [eq3]; exact (Or.inr (Or.inr ⟨hc7, hc8, rfl, N3, rfl⟩))) (fun fs hr => retI X3 hx hret (hb hby d6_11) hr)
abbrev R16_41 : Room := { frames := 0, cells := 0, slots := 0, locals := 0 }
def Q16_41 (Z : State) (cv0 : Value) (h0 : Heap) (n0 : Nat) (v : Option Value) (h : Heap) (L : List Loc) : Prop := (v = some (.int (0 : Int32)) ∧ Fr n0 L ∧ h = h0)
theorem rm16_41 (l : Launch) (Z : State) (a0 : Array Value) (hw : HW Z a0) (cv0 : Value) (h0 : Heap) (n0 : Nat) (OLD : Old Z n0 h0) (rf_cv0 : cv0.isRef = true) :
    own_CN l Z y10 jdk_41_method_12_code 4 (some .int) [] R16_41 #[(.int (0 : Int32)), (.int (2 : Int32)), (.int (2 : Int32)), cv0] h0 (Q16_41 Z cv0 h0 n0) := by
  refine own_entryN (plainFor_of_name pn_3) fun p e s m below meth c s₁ hx hby hml hown hnm hret hlk hZ hh X0 e0 => ?_
  have N0 := Fr.nil n0
  rw [ef_16_41 m cv0 rf_cv0]
  refine og s₁ (mkF m 23 #[vI (0 : Int32), vI (2 : Int32), vI (2 : Int32), .val cv0] [(.int (0 : Int32))]) (fun _ k => XS.iloadN X0.here hx rfl (hb hby d16_0) rfl (XS.ifNo X0.here hx rfl (hb hby d16_1) rfl ((if0 _ _).trans (flt (by decide : ¬ ((0 : Int32) < (0 : Int32)))).1) (XS.iloadN X0.here hx rfl (hb hby d16_4) rfl (XS.iloadN X0.here hx rfl (hb hby d16_5) rfl (XS.icmpNo X0.here hx rfl (hb hby d16_6) rfl (flt (by decide : ¬ ((2 : Int32) < (0 : Int32)))).2.2.1 (XS.iloadN X0.here hx rfl (hb hby d16_9) rfl (XS.iloadN X0.here hx rfl (hb hby d16_10) rfl (XS.icmpYes X0.here hx rfl (pc0 := 11) (pc' := 22) rfl (hb hby d16_11) rfl (flt (by decide : ¬ ((2 : Int32) < (2 : Int32)))).2.2.2 (by decide) (by decide) (XS.iloadN X0.here hx rfl (hb hby d16_22) rfl k))))))))) ?_
  exact own_leaveN X0 hlk (v := some (.int (0 : Int32))) (fun h => by rw [hret] at h; cases h) (lb rfl) (lb rfl) (by rw [e0]; exact ⟨rfl, N0, rfl⟩) (fun fs hr => retI X0 hx hret (hb hby d16_23) hr)
abbrev R15_40 : Room := { frames := 1, cells := 0, slots := 0, locals := 15 }
def Q15_40 (Z : State) (G3 : Value) (h0 : Heap) (n0 : Nat) (v : Option Value) (h : Heap) (L : List Loc) : Prop := (v = none ∧ Fr n0 L ∧ h = h0)
theorem rm15_40 (l : Launch) (Z : State) (a0 : Array Value) (hw : HW Z a0) (G3 : Value) (h0 : Heap) (n0 : Nat) (OLD : Old Z n0 h0) (O4 : Sta Z Z.heap "jdk/internal/util/Preconditions" "SIOOBE_FORMATTER" "Ljava/util/function/BiFunction;" G3) (rG3 : G3.isRef = true) :
    own_CN l Z y11 jdk_42_method_158_code 3 none [] R15_40 #[(.int (0 : Int32)), (.int (2 : Int32)), (.int (2 : Int32))] h0 (Q15_40 Z G3 h0 n0) := by
  refine own_entryN (plainFor_of_name pn_1) fun p e s m below meth c s₁ hx hby hml hown hnm hret hlk hZ hh X0 e0 => ?_
  have N0 := Fr.nil n0
  rw [ef_15_40 m ]
  refine og s₁ (mkF m 3 #[vI (0 : Int32), vI (2 : Int32), vI (2 : Int32)] [(.int (2 : Int32)), (.int (2 : Int32)), (.int (0 : Int32))]) (fun _ k => XS.iloadN X0.here hx rfl (hb hby d15_0) rfl (XS.iloadN X0.here hx rfl (hb hby d15_1) rfl (XS.iloadN X0.here hx rfl (hb hby d15_2) rfl k))) ?_
  obtain ⟨T1, X1, e1, st1⟩ := getS2 X0 hx hZ hown (host := "") (Or.inl (own_w hw 76)) Via.refl e0 (O4.ext OLD.2) (g := (mkF m 3 #[vI (0 : Int32), vI (2 : Int32), vI (2 : Int32)] [(.int (2 : Int32)), (.int (2 : Int32)), (.int (0 : Int32))])) rfl (hb hby d15_3)
  refine og T1 (mkF m 6 #[vI (0 : Int32), vI (2 : Int32), vI (2 : Int32)] [G3, (.int (2 : Int32)), (.int (2 : Int32)), (.int (0 : Int32))]) st1 ?_
  obtain ⟨_, _, ⟨T2, L2, k2, n2⟩, -, X2, ⟨Lc2, hQ2, l2, y2, z2⟩, st2⟩ := Jvm.LawKit.callS X1 hx (y := y10) hown (mvT hZ (own_w hw 78)) (mvT hZ (own_w hw 79)) (mvT hZ (own_w hw 77)) (mvT hZ (own_w hw 80)) (by decide) (backOf (W := 0) (rm16_41 l Z a0 hw G3 h0 n0 OLD rG3) hZ (own_w hw 80) (own_w hw 77) (lb rfl) (lb rfl)) (g := (mkF m 6 #[vI (0 : Int32), vI (2 : Int32), vI (2 : Int32)] [G3, (.int (2 : Int32)), (.int (2 : Int32)), (.int (0 : Int32))])) rfl (by rw [hml]; rfl) (argsL := [(.int (0 : Int32)), (.int (2 : Int32)), (.int (2 : Int32)), G3]) (rest := []) (lenOf pd_9 rfl) rfl (lb rfl) (hb hby d15_6) (fun _ _ => ⟨rfl, e1, (lb rfl), (lb rfl)⟩)
  dsimp only [Pt.U, Pt.locs, Pt.cells, Pt.slots] at X2 l2 y2 z2 st2 hQ2
  subst l2 y2 z2
  obtain ⟨rfl, Nq2, eq2⟩ := hQ2
  have N2 := Fr.app N0 Nq2
  refine og T2 (mkF m 9 #[vI (0 : Int32), vI (2 : Int32), vI (2 : Int32)] [(.int (0 : Int32))]) st2 ?_
  refine og T2 (mkF m 10 #[vI (0 : Int32), vI (2 : Int32), vI (2 : Int32)] []) (fun _ k => XS.pop X2.here hx rfl (hb hby d15_9) rfl rfl k) ?_
  exact own_leaveN X2 hlk (v := none) (fun _ => rfl) (lb rfl) (lb rfl) (by rw [eq2]; exact ⟨rfl, N2, rfl⟩) (fun fs hr => X2.returnOut hx hret (hb hby d15_10) hr)
abbrev R14_39 : Room := { frames := 2, cells := 0, slots := 0, locals := 29 }
def Q14_39 (Z : State) (ra0 : Addr) (ra1 : Addr) (kc2 : ClassId) (ci3 : Int32) (ci4 : Int32) (G1 : Int32) (G3 : Value) (h0 : Heap) (n0 : Nat) (v : Option Value) (h : Heap) (L : List Loc) : Prop := (v = some (.ref ra0) ∧ Fr n0 L ∧ h = h0)
theorem rm14_39 (l : Launch) (Z : State) (a0 : Array Value) (hw : HW Z a0) (ra0 : Addr) (ra1 : Addr) (kc2 : ClassId) (ci3 : Int32) (ci4 : Int32) (G1 : Int32) (G3 : Value) (h0 : Heap) (n0 : Nat) (OLD : Old Z n0 h0) (E_ra0 : Exa Z h0 ra0 "java/lang/String") (F_coder_ra0 : Fld Z h0 ra0 "java/lang/String" "coder" "B" (.int (0 : Int32))) (F_value_ra0 : Fld Z h0 ra0 "java/lang/String" "value" "[B" (.ref ra1)) (hl_ci3 : ¬ ci3 < 0 ∧ ¬ (255 : Int32) < ci3) (hl_ci4 : ¬ ci4 < 0 ∧ ¬ (255 : Int32) < ci4) (V_ra1 : Arv Z h0 ra1 kc2 .byte (2 : Int32) [(.int (ci3.toInt8.toInt32)), (.int (ci4.toInt8.toInt32))] (.int (0 : Int32))) (O2 : Sta Z Z.heap "java/lang/String" "COMPACT_STRINGS" "Z" (.int G1)) (P5 : ¬ (G1 = (0 : Int32))) (O4 : Sta Z Z.heap "jdk/internal/util/Preconditions" "SIOOBE_FORMATTER" "Ljava/util/function/BiFunction;" G3) (rG3 : G3.isRef = true) :
    own_CN l Z y12 jdk_42_method_92_code 5 (some (.object "java/lang/String")) [] R14_39 #[(.ref ra0), (.int (0 : Int32)), (.int (2 : Int32))] h0 (Q14_39 Z ra0 ra1 kc2 ci3 ci4 G1 G3 h0 n0) := by
  refine own_entryN (plainFor_of_name pn_1) fun p e s m below meth c s₁ hx hby hml hown hnm hret hlk hZ hh X0 e0 => ?_
  have N0 := Fr.nil n0
  rw [ef_14_39 m ra0]
  refine og s₁ (mkF m 1 #[vR ra0, vI (0 : Int32), vI (2 : Int32), vU, vU] [(.ref ra0)]) (fun _ k => XS.aloadN X0.here hx rfl (hb hby d14_0) rfl rfl k) ?_
  have hp1 : ∀ c ∈ ([ci3, ci4] : List Int32), ¬ c < 0 ∧ ¬ (255 : Int32) < c := by
    intro c hc
    simp only [List.mem_cons, List.not_mem_nil, or_false] at hc
    rcases hc with rfl | rfl
    · exact hl_ci3
    · exact hl_ci4
  obtain ⟨cq2, kq2, q2a, q2b, q2c⟩ := isOf hZ e0 E_ra0
  obtain ⟨_, _, ⟨T2, L2, k2, n2⟩, -, X2, ⟨Lc2, hQ2, l2, y2, z2⟩, st2⟩ := X0.virtualBack hx (y := y3) (z := y3) hown (mvT hZ (own_w hw 36)) (mvT hZ (own_w hw 37)) (notFace_of_selects (args := #[]) (mvT hZ (own_w hw 39))) (mvT hZ (own_w hw 39)) (mvT hZ (own_w hw 38)) (by decide) (StrChars.Road.lenW (W := 0) hZ (own_hln hw) (kI := 4) (own_w hw 7) (cs := ([ci3, ci4] : List Int32)) E_ra0 F_value_ra0 F_coder_ra0 V_ra1 (StrChars.Road.codOf rfl (fun c hc => (hp1 c hc).2)) (own_up _ hp1) (O2.ext OLD.2) P5 (lb rfl) (lb rfl) (lb rfl)) q2a q2c (g := (mkF m 1 #[vR ra0, vI (0 : Int32), vI (2 : Int32), vU, vU] [(.ref ra0)])) rfl (by rw [hml]; rfl) (Steps.refl _) (argsL := []) (rest := []) (lenOf pd_3 rfl) rfl (lb rfl) (hb hby d14_1) (fun _ _ => ⟨rfl, e0, (lb rfl), (lb rfl)⟩)
  dsimp only [Pt.U, Pt.locs, Pt.cells, Pt.slots] at X2 l2 y2 z2 st2 hQ2
  subst l2 y2 z2
  obtain ⟨rfl, rfl, eq2⟩ := hQ2
  have N2 := Fr.app N0 (Fr.nil n0)
  refine ot T2 (mkF m 4 #[vR ra0, vI (0 : Int32), vI (2 : Int32), vU, vU] [(.int (2 : Int32))]) st2 ?_
  refine og T2 (mkF m 8 #[vR ra0, vI (0 : Int32), vI (2 : Int32), vI (2 : Int32), vU] [(.int (2 : Int32)), (.int (2 : Int32)), (.int (0 : Int32))]) (fun _ k => XS.istoreN X2.here hx rfl (hb hby d14_4) rfl (l' := #[vR ra0, vI (0 : Int32), vI (2 : Int32), vI (2 : Int32), vU]) rfl (XS.iloadN X2.here hx rfl (hb hby d14_5) rfl (XS.iloadN X2.here hx rfl (hb hby d14_6) rfl (XS.iloadN X2.here hx rfl (hb hby d14_7) rfl k)))) ?_
  obtain ⟨_, _, ⟨T3, L3, k3, n3⟩, -, X3, ⟨Lc3, hQ3, l3, y3, z3⟩, st3⟩ := Jvm.LawKit.callS X2 hx (y := y11) hown (mvT hZ (own_w hw 73)) (mvT hZ (own_w hw 74)) (mvT hZ (own_w hw 8)) (mvT hZ (own_w hw 75)) (by decide) (backOf (W := 0) (rm15_40 l Z a0 hw G3 h0 n0 OLD O4 rG3) hZ (own_w hw 75) (own_w hw 8) (lb rfl) (lb rfl)) (g := (mkF m 8 #[vR ra0, vI (0 : Int32), vI (2 : Int32), vI (2 : Int32), vU] [(.int (2 : Int32)), (.int (2 : Int32)), (.int (0 : Int32))])) rfl (by rw [hml]; rfl) (argsL := [(.int (0 : Int32)), (.int (2 : Int32)), (.int (2 : Int32))]) (rest := []) (lenOf pd_10 rfl) rfl (lb rfl) (hb hby d14_8) (fun _ _ => ⟨rfl, eq2, (lb rfl), (lb rfl)⟩)
  dsimp only [Pt.U, Pt.locs, Pt.cells, Pt.slots] at X3 l3 y3 z3 st3 hQ3
  subst l3 y3 z3
  obtain ⟨rfl, Nq3, eq3⟩ := hQ3
  have N3 := Fr.app N2 Nq3
  refine og T3 (mkF m 11 #[vR ra0, vI (0 : Int32), vI (2 : Int32), vI (2 : Int32), vU] []) st3 ?_
  refine og T3 (mkF m 21 #[vR ra0, vI (0 : Int32), vI (2 : Int32), vI (2 : Int32), vU] [(.ref ra0)]) (fun _ k => XS.iloadN X3.here hx rfl (hb hby d14_11) rfl (XS.ifNo X3.here hx rfl (hb hby d14_12) rfl ((if0 _ _).trans (teq (by decide : (0 : Int32) = (0 : Int32))).2) (XS.iloadN X3.here hx rfl (hb hby d14_15) rfl (XS.iloadN X3.here hx rfl (hb hby d14_16) rfl (XS.icmpNo X3.here hx rfl (hb hby d14_17) rfl (teq (by decide : (2 : Int32) = (2 : Int32))).2 (XS.aloadN X3.here hx rfl (hb hby d14_20) rfl rfl k)))))) ?_
  exact own_leaveN X3 hlk (v := some (.ref ra0)) (fun h => by rw [hret] at h; cases h) (lb rfl) (lb rfl) (by rw [eq3]; exact ⟨rfl, N3, rfl⟩) (fun fs hr => retOut X3 hx (t := (.object "java/lang/String")) hret rfl (Or.inr (Or.inr (Or.inr (Or.inr ⟨rfl, rfl, rfl⟩)))) (hb hby d14_21) hr)
abbrev R16_44 : Room := { frames := 0, cells := 0, slots := 0, locals := 0 }
def Q16_44 (Z : State) (cv0 : Value) (h0 : Heap) (n0 : Nat) (v : Option Value) (h : Heap) (L : List Loc) : Prop := (v = some (.int (0 : Int32)) ∧ Fr n0 L ∧ h = h0)
theorem rm16_44 (l : Launch) (Z : State) (a0 : Array Value) (hw : HW Z a0) (cv0 : Value) (h0 : Heap) (n0 : Nat) (OLD : Old Z n0 h0) (rf_cv0 : cv0.isRef = true) :
    own_CN l Z y10 jdk_41_method_12_code 4 (some .int) [] R16_44 #[(.int (0 : Int32)), (.int (1 : Int32)), (.int (2 : Int32)), cv0] h0 (Q16_44 Z cv0 h0 n0) := by
  refine own_entryN (plainFor_of_name pn_3) fun p e s m below meth c s₁ hx hby hml hown hnm hret hlk hZ hh X0 e0 => ?_
  have N0 := Fr.nil n0
  rw [ef_16_44 m cv0 rf_cv0]
  refine og s₁ (mkF m 23 #[vI (0 : Int32), vI (1 : Int32), vI (2 : Int32), .val cv0] [(.int (0 : Int32))]) (fun _ k => XS.iloadN X0.here hx rfl (hb hby d16_0) rfl (XS.ifNo X0.here hx rfl (hb hby d16_1) rfl ((if0 _ _).trans (flt (by decide : ¬ ((0 : Int32) < (0 : Int32)))).1) (XS.iloadN X0.here hx rfl (hb hby d16_4) rfl (XS.iloadN X0.here hx rfl (hb hby d16_5) rfl (XS.icmpNo X0.here hx rfl (hb hby d16_6) rfl (flt (by decide : ¬ ((1 : Int32) < (0 : Int32)))).2.2.1 (XS.iloadN X0.here hx rfl (hb hby d16_9) rfl (XS.iloadN X0.here hx rfl (hb hby d16_10) rfl (XS.icmpYes X0.here hx rfl (pc0 := 11) (pc' := 22) rfl (hb hby d16_11) rfl (flt (by decide : ¬ ((2 : Int32) < (1 : Int32)))).2.2.2 (by decide) (by decide) (XS.iloadN X0.here hx rfl (hb hby d16_22) rfl k))))))))) ?_
  exact own_leaveN X0 hlk (v := some (.int (0 : Int32))) (fun h => by rw [hret] at h; cases h) (lb rfl) (lb rfl) (by rw [e0]; exact ⟨rfl, N0, rfl⟩) (fun fs hr => retI X0 hx hret (hb hby d16_23) hr)
abbrev R15_43 : Room := { frames := 1, cells := 0, slots := 0, locals := 15 }
def Q15_43 (Z : State) (G3 : Value) (h0 : Heap) (n0 : Nat) (v : Option Value) (h : Heap) (L : List Loc) : Prop := (v = none ∧ Fr n0 L ∧ h = h0)
theorem rm15_43 (l : Launch) (Z : State) (a0 : Array Value) (hw : HW Z a0) (G3 : Value) (h0 : Heap) (n0 : Nat) (OLD : Old Z n0 h0) (O4 : Sta Z Z.heap "jdk/internal/util/Preconditions" "SIOOBE_FORMATTER" "Ljava/util/function/BiFunction;" G3) (rG3 : G3.isRef = true) :
    own_CN l Z y11 jdk_42_method_158_code 3 none [] R15_43 #[(.int (0 : Int32)), (.int (1 : Int32)), (.int (2 : Int32))] h0 (Q15_43 Z G3 h0 n0) := by
  refine own_entryN (plainFor_of_name pn_1) fun p e s m below meth c s₁ hx hby hml hown hnm hret hlk hZ hh X0 e0 => ?_
  have N0 := Fr.nil n0
  rw [ef_15_43 m ]
  refine og s₁ (mkF m 3 #[vI (0 : Int32), vI (1 : Int32), vI (2 : Int32)] [(.int (2 : Int32)), (.int (1 : Int32)), (.int (0 : Int32))]) (fun _ k => XS.iloadN X0.here hx rfl (hb hby d15_0) rfl (XS.iloadN X0.here hx rfl (hb hby d15_1) rfl (XS.iloadN X0.here hx rfl (hb hby d15_2) rfl k))) ?_
  obtain ⟨T1, X1, e1, st1⟩ := getS2 X0 hx hZ hown (host := "") (Or.inl (own_w hw 76)) Via.refl e0 (O4.ext OLD.2) (g := (mkF m 3 #[vI (0 : Int32), vI (1 : Int32), vI (2 : Int32)] [(.int (2 : Int32)), (.int (1 : Int32)), (.int (0 : Int32))])) rfl (hb hby d15_3)
  refine og T1 (mkF m 6 #[vI (0 : Int32), vI (1 : Int32), vI (2 : Int32)] [G3, (.int (2 : Int32)), (.int (1 : Int32)), (.int (0 : Int32))]) st1 ?_
  obtain ⟨_, _, ⟨T2, L2, k2, n2⟩, -, X2, ⟨Lc2, hQ2, l2, y2, z2⟩, st2⟩ := Jvm.LawKit.callS X1 hx (y := y10) hown (mvT hZ (own_w hw 78)) (mvT hZ (own_w hw 79)) (mvT hZ (own_w hw 77)) (mvT hZ (own_w hw 80)) (by decide) (backOf (W := 0) (rm16_44 l Z a0 hw G3 h0 n0 OLD rG3) hZ (own_w hw 80) (own_w hw 77) (lb rfl) (lb rfl)) (g := (mkF m 6 #[vI (0 : Int32), vI (1 : Int32), vI (2 : Int32)] [G3, (.int (2 : Int32)), (.int (1 : Int32)), (.int (0 : Int32))])) rfl (by rw [hml]; rfl) (argsL := [(.int (0 : Int32)), (.int (1 : Int32)), (.int (2 : Int32)), G3]) (rest := []) (lenOf pd_9 rfl) rfl (lb rfl) (hb hby d15_6) (fun _ _ => ⟨rfl, e1, (lb rfl), (lb rfl)⟩)
  dsimp only [Pt.U, Pt.locs, Pt.cells, Pt.slots] at X2 l2 y2 z2 st2 hQ2
  subst l2 y2 z2
  obtain ⟨rfl, Nq2, eq2⟩ := hQ2
  have N2 := Fr.app N0 Nq2
  refine og T2 (mkF m 9 #[vI (0 : Int32), vI (1 : Int32), vI (2 : Int32)] [(.int (0 : Int32))]) st2 ?_
  refine og T2 (mkF m 10 #[vI (0 : Int32), vI (1 : Int32), vI (2 : Int32)] []) (fun _ k => XS.pop X2.here hx rfl (hb hby d15_9) rfl rfl k) ?_
  exact own_leaveN X2 hlk (v := none) (fun _ => rfl) (lb rfl) (lb rfl) (by rw [eq2]; exact ⟨rfl, N2, rfl⟩) (fun fs hr => X2.returnOut hx hret (hb hby d15_10) hr)
abbrev R23_48 : Room := { frames := 0, cells := 0, slots := 0, locals := 0 }
def Q23_48 (Z : State)  (h0 : Heap) (n0 : Nat) (v : Option Value) (h : Heap) (L : List Loc) : Prop := (v = none ∧ Fr n0 L ∧ h = h0)
theorem rm23_48 (l : Launch) (Z : State) (a0 : Array Value) (hw : HW Z a0)  (h0 : Heap) (n0 : Nat) (OLD : Old Z n0 h0) :
    own_CN l Z y16 jdk_65_method_131_code 2 none [] R23_48 #[(.int (0 : Int32)), (.int (1 : Int32))] h0 (Q23_48 Z  h0 n0) := by
  refine own_entryN (plainFor_of_name pn_5) fun p e s m below meth c s₁ hx hby hml hown hnm hret hlk hZ hh X0 e0 => ?_
  have N0 := Fr.nil n0
  rw [ef_23_48 m ]
  refine og s₁ (mkF m 37 #[vI (0 : Int32), vI (1 : Int32)] []) (fun _ k => XS.iloadN X0.here hx rfl (hb hby d23_0) rfl (XS.iloadN X0.here hx rfl (hb hby d23_1) rfl (XS.icmpYes X0.here hx rfl (pc0 := 2) (pc' := 37) rfl (hb hby d23_2) rfl (flt (by decide : ¬ ((1 : Int32) < (0 : Int32)))).2.1 (by decide) (by decide) k))) ?_
  exact own_leaveN X0 hlk (v := none) (fun _ => rfl) (lb rfl) (lb rfl) (by rw [e0]; exact ⟨rfl, N0, rfl⟩) (fun fs hr => X0.returnOut hx hret (hb hby d23_37) hr)
abbrev R13_49 : Room := { frames := 0, cells := 0, slots := 0, locals := 0 }
def Q13_49 (Z : State)  (h0 : Heap) (n0 : Nat) (v : Option Value) (h : Heap) (L : List Loc) : Prop := (v = some (.int (1 : Int32)) ∧ Fr n0 L ∧ h = h0)
theorem rm13_49 (l : Launch) (Z : State) (a0 : Array Value) (hw : HW Z a0)  (h0 : Heap) (n0 : Nat) (OLD : Old Z n0 h0) :
    own_CN l Z y6 jdk_29_method_69_code 2 (some .int) [] R13_49 #[(.int (2 : Int32)), (.int (1 : Int32))] h0 (Q13_49 Z  h0 n0) := by
  refine own_entryN (Jvm.Free.JP.mathPlain rfl (by decide +kernel)) fun p e s m below meth c s₁ hx hby hml hown hnm hret hlk hZ hh X0 e0 => ?_
  have N0 := Fr.nil n0
  rw [ef_13_49 m ]
  refine og s₁ (mkF m 10 #[vI (2 : Int32), vI (1 : Int32)] [(.int (1 : Int32))]) (fun _ k => XS.iloadN X0.here hx rfl (hb hby d13_0) rfl (XS.iloadN X0.here hx rfl (hb hby d13_1) rfl (XS.icmpYes X0.here hx rfl (pc0 := 2) (pc' := 9) rfl (hb hby d13_2) rfl (tlt (by decide : (1 : Int32) < (2 : Int32))).2.2.1 (by decide) (by decide) (XS.iloadN X0.here hx rfl (hb hby d13_9) rfl k)))) ?_
  exact own_leaveN X0 hlk (v := some (.int (1 : Int32))) (fun h => by rw [hret] at h; cases h) (lb rfl) (lb rfl) (by rw [e0]; exact ⟨rfl, N0, rfl⟩) (fun fs hr => retI X0 hx hret (hb hby d13_10) hr)
abbrev R22_47 : Room := { frames := 1, cells := 1, slots := 1, locals := 18 }
def Q22_47 (Z : State) (ra0 : Addr) (kc1 : ClassId) (ci2 : Int32) (ci3 : Int32) (h0 : Heap) (n0 : Nat) (v : Option Value) (h : Heap) (L : List Loc) : Prop := (∃ (b2 : Addr) (k2 : ClassId), v = some (.ref b2) ∧ Fr n0 L ∧ Keep h0 h [] ∧ h0.size ≤ b2 ∧ Arv Z h b2 k2 .byte (1 : Int32) [(.int (ci2.toInt8.toInt32))] (.int (0 : Int32)))
theorem rm22_47 (l : Launch) (Z : State) (a0 : Array Value) (hw : HW Z a0) (ra0 : Addr) (kc1 : ClassId) (ci2 : Int32) (ci3 : Int32) (h0 : Heap) (n0 : Nat) (OLD : Old Z n0 h0) (hl_ci2 : ¬ ci2 < 0 ∧ ¬ (255 : Int32) < ci2) (hl_ci3 : ¬ ci3 < 0 ∧ ¬ (255 : Int32) < ci3) (V_ra0 : Arv Z h0 ra0 kc1 .byte (2 : Int32) [(.int (ci2.toInt8.toInt32)), (.int (ci3.toInt8.toInt32))] (.int (0 : Int32))) :
    own_CN l Z y17 jdk_65_method_133_code 5 (some (.array .byte)) [] R22_47 #[(.ref ra0), (.int (0 : Int32)), (.int (1 : Int32))] h0 (Q22_47 Z ra0 kc1 ci2 ci3 h0 n0) := by
  refine own_entryN (plainFor_of_name pn_5) fun p e s m below meth c s₁ hx hby hml hown hnm hret hlk hZ hh X0 e0 => ?_
  have N0 := Fr.nil n0
  rw [ef_22_47 m ra0]
  refine og s₁ (mkF m 2 #[vR ra0, vI (0 : Int32), vI (1 : Int32), vU, vU] [(.int (1 : Int32)), (.int (0 : Int32))]) (fun _ k => XS.iloadN X0.here hx rfl (hb hby d22_0) rfl (XS.iloadN X0.here hx rfl (hb hby d22_1) rfl k)) ?_
  obtain ⟨_, _, ⟨T1, L1, k1, n1⟩, -, X1, ⟨Lc1, hQ1, l1, y1, z1⟩, st1⟩ := Jvm.LawKit.callS X0 hx (y := y16) hown (mvT hZ (own_w hw 103)) (mvT hZ (own_w hw 104)) (mvT hZ (own_w hw 98)) (mvT hZ (own_w hw 105)) (by decide) (backOf (W := 0) (rm23_48 l Z a0 hw  h0 n0 OLD ) hZ (own_w hw 105) (own_w hw 98) (lb rfl) (lb rfl)) (g := (mkF m 2 #[vR ra0, vI (0 : Int32), vI (1 : Int32), vU, vU] [(.int (1 : Int32)), (.int (0 : Int32))])) rfl (by rw [hml]; rfl) (argsL := [(.int (0 : Int32)), (.int (1 : Int32))]) (rest := []) (lenOf pd_14 rfl) rfl (lb rfl) (hb hby d22_2) (fun _ _ => ⟨rfl, e0, (lb rfl), (lb rfl)⟩)
  dsimp only [Pt.U, Pt.locs, Pt.cells, Pt.slots] at X1 l1 y1 z1 st1 hQ1
  subst l1 y1 z1
  obtain ⟨rfl, Nq1, eq1⟩ := hQ1
  have N1 := Fr.app N0 Nq1
  refine og T1 (mkF m 5 #[vR ra0, vI (0 : Int32), vI (1 : Int32), vU, vU] []) st1 ?_
  refine og T1 (mkF m 10 #[vR ra0, vI (0 : Int32), vI (1 : Int32), vI (1 : Int32), vU] [(.int (1 : Int32))]) (fun _ k => XS.iloadN X1.here hx rfl (hb hby d22_5) rfl (XS.iloadN X1.here hx rfl (hb hby d22_6) rfl (XS.isub X1.here hx rfl (hb hby d22_7) rfl (XS.istoreN X1.here hx rfl (hb hby d22_8) rfl (l' := #[vR ra0, vI (0 : Int32), vI (1 : Int32), vI (1 : Int32), vU]) rfl (XS.iloadN X1.here hx rfl (hb hby d22_9) rfl k))))) ?_
  obtain ⟨T2, h2, k2, X2, e2, E2, A2, st2⟩ := newP X1 hx hZ (own_w hw 20) eq1 (g := (mkF m 10 #[vR ra0, vI (0 : Int32), vI (1 : Int32), vI (1 : Int32), vU] [(.int (1 : Int32))])) rfl (hb hby d22_10) rfl (by decide) (cap := 1) (by decide) (lb rfl) (lb rfl) (lb rfl)
  obtain ⟨b2, gb2⟩ : ∃ z, z = h0.size := ⟨_, rfl⟩
  rw [← gb2] at A2 st2
  have g3 : n0 ≤ b2 := Nat.le_trans (own_osz OLD) (Nat.le_of_eq gb2.symm)
  have z4 : h0.size ≤ b2 := Nat.le_trans (Nat.le_refl _) (Nat.le_of_eq gb2.symm)
  have V2 : Arv Z h2 b2 k2 .byte (1 : Int32) [(.int (0 : Int32))] (.int (0 : Int32)) := (Arv.new A2 (by decide)).pad (pad_rep [] (.int (0 : Int32)) 1)
  refine og T2 (mkF m 12 #[vR ra0, vI (0 : Int32), vI (1 : Int32), vI (1 : Int32), vU] [(.ref b2)]) st2 ?_
  refine og T2 (mkF m 20 #[vR ra0, vI (0 : Int32), vI (1 : Int32), vI (1 : Int32), vR b2] [(.ref ra0), (.int (0 : Int32)), (.ref b2), (.int (0 : Int32)), (.ref ra0)]) (fun _ k => XS.astore X2.here hx rfl (hb hby d22_12) rfl rfl (l' := #[vR ra0, vI (0 : Int32), vI (1 : Int32), vI (1 : Int32), vR b2]) rfl (XS.aloadN X2.here hx rfl (hb hby d22_14) rfl rfl (XS.iloadN X2.here hx rfl (hb hby d22_15) rfl (XS.aload X2.here hx rfl (hb hby d22_16) rfl rfl (XS.iconst X2.here hx rfl (hb hby d22_18) (XS.aloadN X2.here hx rfl (hb hby d22_19) rfl rfl k)))))) ?_
  have F5 := (V_ra0.ext E2)
  obtain ⟨cl6, Ar6, -, Sr6, Nr6, -, -⟩ := id F5
  refine og T2 (mkF m 21 #[vR ra0, vI (0 : Int32), vI (1 : Int32), vI (1 : Int32), vR b2] [(.int (2 : Int32)), (.int (0 : Int32)), (.ref b2), (.int (0 : Int32)), (.ref ra0)]) (fun t k => X2.arraylength hx (by rw [e2]; exact Ar6.1) (State.isArrayOf_alike hZ.alike Ar6.2.1) (g := (mkF m 20 #[vR ra0, vI (0 : Int32), vI (1 : Int32), vI (1 : Int32), vR b2] [(.ref ra0), (.int (0 : Int32)), (.ref b2), (.int (0 : Int32)), (.ref ra0)])) rfl rfl (hb hby d22_20) t (by rw [len_of Sr6 Nr6]; exact k)) ?_
  refine og T2 (mkF m 24 #[vR ra0, vI (0 : Int32), vI (1 : Int32), vI (1 : Int32), vR b2] [(.int (1 : Int32)), (.int (2 : Int32)), (.int (0 : Int32)), (.ref b2), (.int (0 : Int32)), (.ref ra0)]) (fun _ k => XS.iloadN X2.here hx rfl (hb hby d22_21) rfl (XS.isub X2.here hx rfl (hb hby d22_22) rfl (XS.iloadN X2.here hx rfl (hb hby d22_23) rfl k))) ?_
  have F7 := (OLD.ext E2)
  obtain ⟨_, _, ⟨T8, L8, k8, n8⟩, -, X8, ⟨Lc8, hQ8, l8, y8, z8⟩, st8⟩ := Jvm.LawKit.callS X2 hx (y := y6) hown (mvT hZ (own_w hw 106)) (mvT hZ (own_w hw 65)) (mvT hZ (own_w hw 66)) (mvT hZ (own_w hw 67)) (by decide) (backOf (W := 4) (rm13_49 l Z a0 hw  h2 n0 F7 ) hZ (own_w hw 67) (own_w hw 66) (lb rfl) (lb rfl)) (g := (mkF m 24 #[vR ra0, vI (0 : Int32), vI (1 : Int32), vI (1 : Int32), vR b2] [(.int (1 : Int32)), (.int (2 : Int32)), (.int (0 : Int32)), (.ref b2), (.int (0 : Int32)), (.ref ra0)])) rfl (by rw [hml]; rfl) (argsL := [(.int (2 : Int32)), (.int (1 : Int32))]) (rest := [(.int (0 : Int32)), (.ref b2), (.int (0 : Int32)), (.ref ra0)]) (lenOf pd_6 rfl) rfl (lb rfl) (hb hby d22_24) (fun _ _ => ⟨rfl, e2, (lb rfl), (lb rfl)⟩)
  dsimp only [Pt.U, Pt.locs, Pt.cells, Pt.slots] at X8 l8 y8 z8 st8 hQ8
  subst l8 y8 z8
  obtain ⟨rfl, Nq8, eq8⟩ := hQ8
  have N8 := Fr.app N1 Nq8
  refine og T8 (mkF m 27 #[vR ra0, vI (0 : Int32), vI (1 : Int32), vI (1 : Int32), vR b2] [(.int (1 : Int32)), (.int (0 : Int32)), (.ref b2), (.int (0 : Int32)), (.ref ra0)]) st8 ?_
  obtain ⟨T9, h9, L9, X9, e9, N9, K9, Vq9, st9⟩ := cpA X8 hx hZ hown (own_w hw 107) (own_w hw 110) (own_w hw 108) (own_w hw 109) eq8 F5 V2 (us := [(.int (ci2.toInt8.toInt32))]) (Or.inl ⟨rfl, rfl⟩) (by decide) (by decide) (by decide) (by decide) (by decide) rfl (by decide) N8 g3 (g := (mkF m 27 #[vR ra0, vI (0 : Int32), vI (1 : Int32), vI (1 : Int32), vR b2] [(.int (1 : Int32)), (.int (0 : Int32)), (.ref b2), (.int (0 : Int32)), (.ref ra0)])) rfl (by rw [hml]; rfl) rfl (hb hby d22_27) (lb rfl) (W := 0) (lb rfl) (lb rfl)
  have V9 : Arv Z h9 b2 k2 .byte (1 : Int32) [(.int (ci2.toInt8.toInt32))] (.int (0 : Int32)) := Vq9
  refine og T9 (mkF m 30 #[vR ra0, vI (0 : Int32), vI (1 : Int32), vI (1 : Int32), vR b2] []) st9 ?_
  refine og T9 (mkF m 32 #[vR ra0, vI (0 : Int32), vI (1 : Int32), vI (1 : Int32), vR b2] [(.ref b2)]) (fun _ k => XS.aload X9.here hx rfl (hb hby d22_30) rfl rfl k) ?_
  have KEEP := (((Keep.refl h0 []).ext E2).trans K9 (allS (Or.inr z4) all0))
  exact own_leaveN X9 hlk (v := some (.ref b2)) (fun h => by rw [hret] at h; cases h) (lb rfl) (lb rfl) (by rw [e9]; exact ⟨b2, k2, rfl, N9, KEEP, z4, V9⟩) (fun fs hr => retOut X9 hx (t := (.array .byte)) hret rfl (Or.inr (Or.inr (Or.inr (Or.inr ⟨rfl, rfl, rfl⟩)))) (hb hby d22_32) hr)
abbrev R21_46 : Room := { frames := 2, cells := 1, slots := 1, locals := 34 }
def Q21_46 (Z : State) (ra0 : Addr) (kc1 : ClassId) (ci2 : Int32) (ci3 : Int32) (h0 : Heap) (n0 : Nat) (v : Option Value) (h : Heap) (L : List Loc) : Prop := (∃ (o3 : Addr) (kc4 : ClassId), v = some (.ref o3) ∧ Fr n0 L ∧ Keep h0 h [] ∧ h0.size ≤ o3 ∧ Arv Z h o3 kc4 .byte (1 : Int32) [(.int (ci2.toInt8.toInt32))] (.int (0 : Int32)))
theorem rm21_46 (l : Launch) (Z : State) (a0 : Array Value) (hw : HW Z a0) (ra0 : Addr) (kc1 : ClassId) (ci2 : Int32) (ci3 : Int32) (h0 : Heap) (n0 : Nat) (OLD : Old Z n0 h0) (hl_ci2 : ¬ ci2 < 0 ∧ ¬ (255 : Int32) < ci2) (hl_ci3 : ¬ ci3 < 0 ∧ ¬ (255 : Int32) < ci3) (V_ra0 : Arv Z h0 ra0 kc1 .byte (2 : Int32) [(.int (ci2.toInt8.toInt32)), (.int (ci3.toInt8.toInt32))] (.int (0 : Int32))) :
    own_CN l Z y18 jdk_65_method_132_code 3 (some (.array .byte)) [] R21_46 #[(.ref ra0), (.int (0 : Int32)), (.int (1 : Int32))] h0 (Q21_46 Z ra0 kc1 ci2 ci3 h0 n0) := by
  refine own_entryN (plainFor_of_name pn_5) fun p e s m below meth c s₁ hx hby hml hown hnm hret hlk hZ hh X0 e0 => ?_
  have N0 := Fr.nil n0
  rw [ef_21_46 m ra0]
  refine og s₁ (mkF m 6 #[vR ra0, vI (0 : Int32), vI (1 : Int32)] [(.ref ra0), (.int (1 : Int32))]) (fun _ k => XS.iloadN X0.here hx rfl (hb hby d21_0) rfl (XS.ifNo X0.here hx rfl (hb hby d21_1) rfl ((if0 _ _).trans (teq (by decide : (0 : Int32) = (0 : Int32))).2) (XS.iloadN X0.here hx rfl (hb hby d21_4) rfl (XS.aloadN X0.here hx rfl (hb hby d21_5) rfl rfl k)))) ?_
  obtain ⟨cl1, Ar1, -, Sr1, Nr1, -, -⟩ := id V_ra0
  refine og s₁ (mkF m 7 #[vR ra0, vI (0 : Int32), vI (1 : Int32)] [(.int (2 : Int32)), (.int (1 : Int32))]) (fun t k => X0.arraylength hx (by rw [e0]; exact Ar1.1) (State.isArrayOf_alike hZ.alike Ar1.2.1) (g := (mkF m 6 #[vR ra0, vI (0 : Int32), vI (1 : Int32)] [(.ref ra0), (.int (1 : Int32))])) rfl rfl (hb hby d21_6) t (by rw [len_of Sr1 Nr1]; exact k)) ?_
  refine og s₁ (mkF m 13 #[vR ra0, vI (0 : Int32), vI (1 : Int32)] [(.int (1 : Int32)), (.int (0 : Int32)), (.ref ra0)]) (fun _ k => XS.icmpNo X0.here hx rfl (hb hby d21_7) rfl (feq (by decide : ¬ ((1 : Int32) = (2 : Int32)))).1 (XS.aloadN X0.here hx rfl (hb hby d21_10) rfl rfl (XS.iloadN X0.here hx rfl (hb hby d21_11) rfl (XS.iloadN X0.here hx rfl (hb hby d21_12) rfl k)))) ?_
  obtain ⟨_, _, ⟨T2, L2, k2, n2⟩, -, X2, ⟨Lc2, hQ2, l2, y2, z2⟩, st2⟩ := Jvm.LawKit.callS X0 hx (y := y17) hown (mvT hZ (own_w hw 100)) (mvT hZ (own_w hw 101)) (mvT hZ (own_w hw 98)) (mvT hZ (own_w hw 102)) (by decide) (backOf (W := 0) (rm22_47 l Z a0 hw ra0 kc1 ci2 ci3 h0 n0 OLD hl_ci2 hl_ci3 V_ra0) hZ (own_w hw 102) (own_w hw 98) (lb rfl) (lb rfl)) (g := (mkF m 13 #[vR ra0, vI (0 : Int32), vI (1 : Int32)] [(.int (1 : Int32)), (.int (0 : Int32)), (.ref ra0)])) rfl (by rw [hml]; rfl) (argsL := [(.ref ra0), (.int (0 : Int32)), (.int (1 : Int32))]) (rest := []) (lenOf pd_15 rfl) rfl (lb rfl) (hb hby d21_13) (fun _ _ => ⟨rfl, e0, (lb rfl), (lb rfl)⟩)
  dsimp only [Pt.U, Pt.locs, Pt.cells, Pt.slots] at X2 l2 y2 z2 st2 hQ2
  subst l2 y2 z2
  obtain ⟨o3, kc4, rfl, Nq2, K2, f5, f6⟩ := hQ2
  have N2 := Fr.app N0 Nq2
  have g7 : n0 ≤ o3 := Nat.le_trans (own_osz OLD) f5
  have z8 : h0.size ≤ o3 := Nat.le_trans (Nat.le_refl _) f5
  refine og T2 (mkF m 16 #[vR ra0, vI (0 : Int32), vI (1 : Int32)] [(.ref o3)]) st2 ?_
  have KEEP := ((Keep.refl h0 []).trans K2 all0)
  exact own_leaveN X2 hlk (v := some (.ref o3)) (fun h => by rw [hret] at h; cases h) (lb rfl) (lb rfl) (by exact ⟨o3, kc4, rfl, N2, KEEP, z8, f6⟩) (fun fs hr => retOut X2 hx (t := (.array .byte)) hret rfl (Or.inr (Or.inr (Or.inr (Or.inr ⟨rfl, rfl, rfl⟩)))) (hb hby d21_16) hr)
abbrev R24_50 : Room := { frames := 1, cells := 0, slots := 0, locals := 12 }
def Q24_50 (Z : State) (ra0 : Addr) (ra1 : Addr) (kc2 : ClassId) (ci3 : Int32) (h0 : Heap) (n0 : Nat) (v : Option Value) (h : Heap) (L : List Loc) : Prop := (v = none ∧ Fr n0 L ∧ Keep h0 h [ra0] ∧ Fld Z h ra0 "java/lang/String" "coder" "B" (.int (0 : Int32)) ∧ Fld Z h ra0 "java/lang/String" "value" "[B" (.ref ra1))
theorem rm24_50 (l : Launch) (Z : State) (a0 : Array Value) (hw : HW Z a0) (ra0 : Addr) (ra1 : Addr) (kc2 : ClassId) (ci3 : Int32) (h0 : Heap) (n0 : Nat) (OLD : Old Z n0 h0) (E_ra0 : Exa Z h0 ra0 "java/lang/String") (F_coder_ra0 : Fld Z h0 ra0 "java/lang/String" "coder" "B" (.int (0 : Int32))) (F_value_ra0 : Fld Z h0 ra0 "java/lang/String" "value" "[B" .null) (hl_ci3 : ¬ ci3 < 0 ∧ ¬ (255 : Int32) < ci3) (V_ra1 : Arv Z h0 ra1 kc2 .byte (1 : Int32) [(.int (ci3.toInt8.toInt32))] (.int (0 : Int32))) (ge_ra0 : n0 ≤ ra0) :
    own_CN l Z y19 jdk_42_method_151_code 3 none [] R24_50 #[(.ref ra0), (.ref ra1), (.int (0 : Int32))] h0 (Q24_50 Z ra0 ra1 kc2 ci3 h0 n0) := by
  refine own_entryN (plainFor_of_name pn_1) fun p e s m below meth c s₁ hx hby hml hown hnm hret hlk hZ hh X0 e0 => ?_
  have N0 := Fr.nil n0
  rw [ef_24_50 m ra0 ra1]
  refine og s₁ (mkF m 1 #[vR ra0, vR ra1, vI (0 : Int32)] [(.ref ra0)]) (fun _ k => XS.aloadN X0.here hx rfl (hb hby d24_0) rfl rfl k) ?_
  obtain ⟨T1, X1, e1, st1⟩ := initO X0 hx hZ hown (own_w hw 16) (own_w hw 17) (own_w hw 18) e0 (g := (mkF m 1 #[vR ra0, vR ra1, vI (0 : Int32)] [(.ref ra0)])) rfl (by rw [hml]; rfl) rfl (hb hby d24_1) (by decide) (W := 0) (lb rfl) (by decide)
  refine og T1 (mkF m 4 #[vR ra0, vR ra1, vI (0 : Int32)] []) st1 ?_
  refine og T1 (mkF m 6 #[vR ra0, vR ra1, vI (0 : Int32)] [(.ref ra1), (.ref ra0)]) (fun _ k => XS.aloadN X1.here hx rfl (hb hby d24_4) rfl rfl (XS.aloadN X1.here hx rfl (hb hby d24_5) rfl rfl k)) ?_
  obtain ⟨T2, h2, X2, e2, W2, st2⟩ := putF X1 hx hZ hown (host := "") (Or.inl (own_w hw 25)) Via.refl e1 F_value_ra0 E_ra0 (Or.inr ⟨(own_w hw 21), rfl, hnm⟩) (own_w hw 7) (ty := (.array .byte)) (by decide) rfl rfl (g := (mkF m 6 #[vR ra0, vR ra1, vI (0 : Int32)] [(.ref ra1), (.ref ra0)])) rfl rfl (hb hby d24_6)
  have Fw2 := F_value_ra0.same W2
  have N2 := Fr.snoc X2 N0 ge_ra0
  refine og T2 (mkF m 9 #[vR ra0, vR ra1, vI (0 : Int32)] []) st2 ?_
  refine og T2 (mkF m 11 #[vR ra0, vR ra1, vI (0 : Int32)] [(.int (0 : Int32)), (.ref ra0)]) (fun _ k => XS.aloadN X2.here hx rfl (hb hby d24_9) rfl rfl (XS.iloadN X2.here hx rfl (hb hby d24_10) rfl k)) ?_
  have F3 := (E_ra0.wr W2)
  have F4 := (F_coder_ra0.other W2 (Or.inr (slot_ne (Or.inr (own_w hw 22)) (Or.inr (own_w hw 21)) (by decide) (t := .byte) (t' := (.array .byte)) (by decide) (by decide))))
  obtain ⟨T5, h5, X5, e5, W5, st5⟩ := putFN X2 hx hZ hown (own_w hw 26) Via.refl e2 F4 F3 (Or.inr ⟨(own_w hw 22), rfl, hnm⟩) (own_w hw 7) (ty := .byte) (v' := (.int (nar .byte (0 : Int32)))) (by decide) rfl (fits_nar_byte _) (g := (mkF m 11 #[vR ra0, vR ra1, vI (0 : Int32)] [(.int (0 : Int32)), (.ref ra0)])) rfl rfl (hb hby d24_11)
  rw [show nar .byte (0 : Int32) = (0 : Int32) from rfl] at W5
  have Fw5 := F4.same W5
  have N5 := Fr.snoc X5 N2 ge_ra0
  refine og T5 (mkF m 14 #[vR ra0, vR ra1, vI (0 : Int32)] []) st5 ?_
  have F6 := (Fw2.other W5 (Or.inr (slot_ne (Or.inr (own_w hw 21)) (Or.inr (own_w hw 22)) (by decide) (t := (.array .byte)) (t' := .byte) (by decide) (by decide))))
  have KEEP := (((Keep.refl h0 [ra0]).wr W2 (Or.inl (List.mem_of_getElem? (i := 0) rfl))).wr W5 (Or.inl (List.mem_of_getElem? (i := 0) rfl)))
  exact own_leaveN X5 hlk (v := none) (fun _ => rfl) (lb rfl) (lb rfl) (by rw [e5]; exact ⟨rfl, N5, KEEP, Fw5, F6⟩) (fun fs hr => X5.returnOut hx hret (hb hby d24_14) hr)
abbrev R20_45 : Room := { frames := 3, cells := 2, slots := 5, locals := 50 }
def Q20_45 (Z : State) (ra0 : Addr) (kc1 : ClassId) (ci2 : Int32) (ci3 : Int32) (h0 : Heap) (n0 : Nat) (v : Option Value) (h : Heap) (L : List Loc) : Prop := (∃ (b1 : Addr) (o7 : Addr) (kc8 : ClassId), v = some (.ref b1) ∧ Fr n0 L ∧ Keep h0 h [] ∧ h0.size ≤ b1 ∧ h0.size ≤ o7 ∧ Exa Z h b1 "java/lang/String" ∧ Fld Z h b1 "java/lang/String" "coder" "B" (.int (0 : Int32)) ∧ Fld Z h b1 "java/lang/String" "value" "[B" (.ref o7) ∧ Arv Z h o7 kc8 .byte (1 : Int32) [(.int (ci2.toInt8.toInt32))] (.int (0 : Int32)))
theorem rm20_45 (l : Launch) (Z : State) (a0 : Array Value) (hw : HW Z a0) (ra0 : Addr) (kc1 : ClassId) (ci2 : Int32) (ci3 : Int32) (h0 : Heap) (n0 : Nat) (OLD : Old Z n0 h0) (hl_ci2 : ¬ ci2 < 0 ∧ ¬ (255 : Int32) < ci2) (hl_ci3 : ¬ ci3 < 0 ∧ ¬ (255 : Int32) < ci3) (V_ra0 : Arv Z h0 ra0 kc1 .byte (2 : Int32) [(.int (ci2.toInt8.toInt32)), (.int (ci3.toInt8.toInt32))] (.int (0 : Int32))) :
    own_CN l Z y14 jdk_43_method_47_code 3 (some (.object "java/lang/String")) [] R20_45 #[(.ref ra0), (.int (0 : Int32)), (.int (1 : Int32))] h0 (Q20_45 Z ra0 kc1 ci2 ci3 h0 n0) := by
  refine own_entryN (plainFor_of_name pn_2) fun p e s m below meth c s₁ hx hby hml hown hnm hret hlk hZ hh X0 e0 => ?_
  have N0 := Fr.nil n0
  rw [ef_20_45 m ra0]
  refine og s₁ (mkF m 7 #[vR ra0, vI (0 : Int32), vI (1 : Int32)] []) (fun _ k => XS.iloadN X0.here hx rfl (hb hby d20_0) rfl (XS.ifYes X0.here hx rfl (pc0 := 1) (pc' := 7) rfl (hb hby d20_1) rfl ((if0 _ _).trans (feq (by decide : ¬ ((1 : Int32) = (0 : Int32)))).2) (by decide) (by decide) k)) ?_
  obtain ⟨T1, h1, X1, e1, E1, A1, D1, -, st1⟩ := newO X0 hx hZ hown (own_w hw 95) (own_w hw 7) (own_w hw 8) e0 (g := (mkF m 7 #[vR ra0, vI (0 : Int32), vI (1 : Int32)] [])) rfl (hb hby d20_7) (lb rfl) (lb rfl)
  obtain ⟨b1, gb1⟩ : ∃ z, z = h0.size := ⟨_, rfl⟩
  rw [← gb1] at A1 D1 st1
  have g2 : n0 ≤ b1 := Nat.le_trans (own_osz OLD) (Nat.le_of_eq gb1.symm)
  have z3 : h0.size ≤ b1 := Nat.le_trans (Nat.le_refl _) (Nat.le_of_eq gb1.symm)
  refine og T1 (mkF m 10 #[vR ra0, vI (0 : Int32), vI (1 : Int32)] [(.ref b1)]) st1 ?_
  refine og T1 (mkF m 16 #[vR ra0, vI (0 : Int32), vI (1 : Int32)] [(.int (1 : Int32)), (.int (0 : Int32)), (.ref ra0), (.ref b1), (.ref b1)]) (fun _ k => XS.dup X1.here hx rfl (hb hby d20_10) rfl rfl (XS.aloadN X1.here hx rfl (hb hby d20_11) rfl rfl (XS.iloadN X1.here hx rfl (hb hby d20_12) rfl (XS.iloadN X1.here hx rfl (hb hby d20_13) rfl (XS.iloadN X1.here hx rfl (hb hby d20_14) rfl (XS.iadd X1.here hx rfl (hb hby d20_15) rfl k)))))) ?_
  have F4 := (V_ra0.ext E1)
  have F5 := (OLD.ext E1)
  obtain ⟨_, _, ⟨T6, L6, k6, n6⟩, -, X6, ⟨Lc6, hQ6, l6, y6, z6⟩, st6⟩ := Jvm.LawKit.callS X1 hx (y := y18) hown (mvT hZ (own_w hw 96)) (mvT hZ (own_w hw 97)) (mvT hZ (own_w hw 98)) (mvT hZ (own_w hw 99)) (by decide) (backOf (W := 2) (rm21_46 l Z a0 hw ra0 kc1 ci2 ci3 h1 n0 F5 hl_ci2 hl_ci3 F4) hZ (own_w hw 99) (own_w hw 98) (lb rfl) (lb rfl)) (g := (mkF m 16 #[vR ra0, vI (0 : Int32), vI (1 : Int32)] [(.int (1 : Int32)), (.int (0 : Int32)), (.ref ra0), (.ref b1), (.ref b1)])) rfl (by rw [hml]; rfl) (argsL := [(.ref ra0), (.int (0 : Int32)), (.int (1 : Int32))]) (rest := [(.ref b1), (.ref b1)]) (lenOf pd_15 rfl) rfl (lb rfl) (hb hby d20_16) (fun _ _ => ⟨rfl, e1, (lb rfl), (lb rfl)⟩)
  dsimp only [Pt.U, Pt.locs, Pt.cells, Pt.slots] at X6 l6 y6 z6 st6 hQ6
  subst l6 y6 z6
  obtain ⟨o7, kc8, rfl, Nq6, K6, f9, f10⟩ := hQ6
  have N6 := Fr.app N0 Nq6
  have g11 : n0 ≤ o7 := Nat.le_trans (own_osz F5) f9
  have F13 := (Nat.le_trans (Nat.le_refl _) E1.1)
  have z12 : h0.size ≤ o7 := Nat.le_trans F13 f9
  refine og T6 (mkF m 19 #[vR ra0, vI (0 : Int32), vI (1 : Int32)] [(.ref o7), (.ref b1), (.ref b1)]) st6 ?_
  refine og T6 (mkF m 20 #[vR ra0, vI (0 : Int32), vI (1 : Int32)] [(.int (0 : Int32)), (.ref o7), (.ref b1), (.ref b1)]) (fun _ k => XS.iconst X6.here hx rfl (hb hby d20_19) k) ?_
  have F14 := (A1.keep K6)
  have F15 := ((D1 (Or.inr (own_w hw 22)) (ty := .byte) (by decide)).keep K6 nin0)
  have F16 := ((D1 (Or.inr (own_w hw 21)) (ty := (.array .byte)) (by decide)).keep K6 nin0)
  have F17 := (F5.keep K6 all0)
  obtain ⟨_, _, ⟨T18, L18, k18, n18⟩, -, X18, ⟨Lc18, hQ18, l18, y18, z18⟩, st18⟩ := X6.specialBack hx (y := y19) rfl hown (mvT hZ (own_w hw 111)) (mvT hZ (own_w hw 112)) (mvT hZ (own_w hw 113)) (by decide) (backOf (W := 1) (rm24_50 l Z a0 hw b1 o7 kc8 ci2 T6.heap n0 F17 F14 F15 F16 hl_ci2 f10 g2) hZ (own_w hw 113) (own_w hw 8) (lb rfl) (lb rfl)) (g := (mkF m 20 #[vR ra0, vI (0 : Int32), vI (1 : Int32)] [(.int (0 : Int32)), (.ref o7), (.ref b1), (.ref b1)])) rfl (by rw [hml]; rfl) (Steps.refl _) (a := b1) (argsL := [(.ref o7), (.int (0 : Int32))]) (rest := [(.ref b1)]) (lenOf pd_16 rfl) rfl (lb rfl) (hb hby d20_20) (fun _ _ => ⟨rfl, rfl, (lb rfl), (lb rfl)⟩)
  dsimp only [Pt.U, Pt.locs, Pt.cells, Pt.slots] at X18 l18 y18 z18 st18 hQ18
  subst l18 y18 z18
  obtain ⟨rfl, Nq18, K18, f19, f20⟩ := hQ18
  have N18 := Fr.app N6 Nq18
  refine ot T18 (mkF m 23 #[vR ra0, vI (0 : Int32), vI (1 : Int32)] [(.ref b1)]) st18 ?_
  have F21 := (F14.keep K18)
  have F22 := (f10.keep K18 (ninS (Ne.symm (own_ne_lo A1.lt f9)) nin0))
  have KEEP := ((((Keep.refl h0 []).ext E1).trans K6 all0).trans K18 (allS (Or.inr z3) all0))
  exact own_leaveN X18 hlk (v := some (.ref b1)) (fun h => by rw [hret] at h; cases h) (lb rfl) (lb rfl) (by exact ⟨b1, o7, kc8, rfl, N18, KEEP, z3, z12, F21, f19, f20, F22⟩) (fun fs hr => retOut X18 hx (t := (.object "java/lang/String")) hret rfl (Or.inr (Or.inr (Or.inr (Or.inr ⟨rfl, rfl, rfl⟩)))) (hb hby d20_23) hr)
abbrev R14_42 : Room := { frames := 4, cells := 2, slots := 5, locals := 64 }
def Q14_42 (Z : State) (ra0 : Addr) (ra1 : Addr) (kc2 : ClassId) (ci3 : Int32) (ci4 : Int32) (G1 : Int32) (G3 : Value) (h0 : Heap) (n0 : Nat) (v : Option Value) (h : Heap) (L : List Loc) : Prop := (∃ (o7 : Addr) (o8 : Addr) (kc9 : ClassId), v = some (.ref o7) ∧ Fr n0 L ∧ Keep h0 h [] ∧ h0.size ≤ o7 ∧ h0.size ≤ o8 ∧ Exa Z h o7 "java/lang/String" ∧ Fld Z h o7 "java/lang/String" "coder" "B" (.int (0 : Int32)) ∧ Fld Z h o7 "java/lang/String" "value" "[B" (.ref o8) ∧ Arv Z h o8 kc9 .byte (1 : Int32) [(.int (ci3.toInt8.toInt32))] (.int (0 : Int32)))
theorem rm14_42 (l : Launch) (Z : State) (a0 : Array Value) (hw : HW Z a0) (ra0 : Addr) (ra1 : Addr) (kc2 : ClassId) (ci3 : Int32) (ci4 : Int32) (G1 : Int32) (G3 : Value) (h0 : Heap) (n0 : Nat) (OLD : Old Z n0 h0) (E_ra0 : Exa Z h0 ra0 "java/lang/String") (F_coder_ra0 : Fld Z h0 ra0 "java/lang/String" "coder" "B" (.int (0 : Int32))) (F_value_ra0 : Fld Z h0 ra0 "java/lang/String" "value" "[B" (.ref ra1)) (hl_ci3 : ¬ ci3 < 0 ∧ ¬ (255 : Int32) < ci3) (hl_ci4 : ¬ ci4 < 0 ∧ ¬ (255 : Int32) < ci4) (V_ra1 : Arv Z h0 ra1 kc2 .byte (2 : Int32) [(.int (ci3.toInt8.toInt32)), (.int (ci4.toInt8.toInt32))] (.int (0 : Int32))) (O2 : Sta Z Z.heap "java/lang/String" "COMPACT_STRINGS" "Z" (.int G1)) (P5 : ¬ (G1 = (0 : Int32))) (O4 : Sta Z Z.heap "jdk/internal/util/Preconditions" "SIOOBE_FORMATTER" "Ljava/util/function/BiFunction;" G3) (rG3 : G3.isRef = true) :
    own_CN l Z y12 jdk_42_method_92_code 5 (some (.object "java/lang/String")) [] R14_42 #[(.ref ra0), (.int (0 : Int32)), (.int (1 : Int32))] h0 (Q14_42 Z ra0 ra1 kc2 ci3 ci4 G1 G3 h0 n0) := by
  refine own_entryN (plainFor_of_name pn_1) fun p e s m below meth c s₁ hx hby hml hown hnm hret hlk hZ hh X0 e0 => ?_
  have N0 := Fr.nil n0
  rw [ef_14_42 m ra0]
  refine og s₁ (mkF m 1 #[vR ra0, vI (0 : Int32), vI (1 : Int32), vU, vU] [(.ref ra0)]) (fun _ k => XS.aloadN X0.here hx rfl (hb hby d14_0) rfl rfl k) ?_
  have hp1 : ∀ c ∈ ([ci3, ci4] : List Int32), ¬ c < 0 ∧ ¬ (255 : Int32) < c := by
    intro c hc
    simp only [List.mem_cons, List.not_mem_nil, or_false] at hc
    rcases hc with rfl | rfl
    · exact hl_ci3
    · exact hl_ci4
  obtain ⟨cq2, kq2, q2a, q2b, q2c⟩ := isOf hZ e0 E_ra0
  obtain ⟨_, _, ⟨T2, L2, k2, n2⟩, -, X2, ⟨Lc2, hQ2, l2, y2, z2⟩, st2⟩ := X0.virtualBack hx (y := y3) (z := y3) hown (mvT hZ (own_w hw 36)) (mvT hZ (own_w hw 37)) (notFace_of_selects (args := #[]) (mvT hZ (own_w hw 39))) (mvT hZ (own_w hw 39)) (mvT hZ (own_w hw 38)) (by decide) (StrChars.Road.lenW (W := 0) hZ (own_hln hw) (kI := 4) (own_w hw 7) (cs := ([ci3, ci4] : List Int32)) E_ra0 F_value_ra0 F_coder_ra0 V_ra1 (StrChars.Road.codOf rfl (fun c hc => (hp1 c hc).2)) (own_up _ hp1) (O2.ext OLD.2) P5 (lb rfl) (lb rfl) (lb rfl)) q2a q2c (g := (mkF m 1 #[vR ra0, vI (0 : Int32), vI (1 : Int32), vU, vU] [(.ref ra0)])) rfl (by rw [hml]; rfl) (Steps.refl _) (argsL := []) (rest := []) (lenOf pd_3 rfl) rfl (lb rfl) (hb hby d14_1) (fun _ _ => ⟨rfl, e0, (lb rfl), (lb rfl)⟩)
  dsimp only [Pt.U, Pt.locs, Pt.cells, Pt.slots] at X2 l2 y2 z2 st2 hQ2
  subst l2 y2 z2
  obtain ⟨rfl, rfl, eq2⟩ := hQ2
  have N2 := Fr.app N0 (Fr.nil n0)
  refine ot T2 (mkF m 4 #[vR ra0, vI (0 : Int32), vI (1 : Int32), vU, vU] [(.int (2 : Int32))]) st2 ?_
  refine og T2 (mkF m 8 #[vR ra0, vI (0 : Int32), vI (1 : Int32), vI (2 : Int32), vU] [(.int (2 : Int32)), (.int (1 : Int32)), (.int (0 : Int32))]) (fun _ k => XS.istoreN X2.here hx rfl (hb hby d14_4) rfl (l' := #[vR ra0, vI (0 : Int32), vI (1 : Int32), vI (2 : Int32), vU]) rfl (XS.iloadN X2.here hx rfl (hb hby d14_5) rfl (XS.iloadN X2.here hx rfl (hb hby d14_6) rfl (XS.iloadN X2.here hx rfl (hb hby d14_7) rfl k)))) ?_
  obtain ⟨_, _, ⟨T3, L3, k3, n3⟩, -, X3, ⟨Lc3, hQ3, l3, y3, z3⟩, st3⟩ := Jvm.LawKit.callS X2 hx (y := y11) hown (mvT hZ (own_w hw 73)) (mvT hZ (own_w hw 74)) (mvT hZ (own_w hw 8)) (mvT hZ (own_w hw 75)) (by decide) (backOf (W := 0) (rm15_43 l Z a0 hw G3 h0 n0 OLD O4 rG3) hZ (own_w hw 75) (own_w hw 8) (lb rfl) (lb rfl)) (g := (mkF m 8 #[vR ra0, vI (0 : Int32), vI (1 : Int32), vI (2 : Int32), vU] [(.int (2 : Int32)), (.int (1 : Int32)), (.int (0 : Int32))])) rfl (by rw [hml]; rfl) (argsL := [(.int (0 : Int32)), (.int (1 : Int32)), (.int (2 : Int32))]) (rest := []) (lenOf pd_10 rfl) rfl (lb rfl) (hb hby d14_8) (fun _ _ => ⟨rfl, eq2, (lb rfl), (lb rfl)⟩)
  dsimp only [Pt.U, Pt.locs, Pt.cells, Pt.slots] at X3 l3 y3 z3 st3 hQ3
  subst l3 y3 z3
  obtain ⟨rfl, Nq3, eq3⟩ := hQ3
  have N3 := Fr.app N2 Nq3
  refine og T3 (mkF m 11 #[vR ra0, vI (0 : Int32), vI (1 : Int32), vI (2 : Int32), vU] []) st3 ?_
  refine og T3 (mkF m 28 #[vR ra0, vI (0 : Int32), vI (1 : Int32), vI (2 : Int32), vI (1 : Int32)] [(.ref ra0)]) (fun _ k => XS.iloadN X3.here hx rfl (hb hby d14_11) rfl (XS.ifNo X3.here hx rfl (hb hby d14_12) rfl ((if0 _ _).trans (teq (by decide : (0 : Int32) = (0 : Int32))).2) (XS.iloadN X3.here hx rfl (hb hby d14_15) rfl (XS.iloadN X3.here hx rfl (hb hby d14_16) rfl (XS.icmpYes X3.here hx rfl (pc0 := 17) (pc' := 22) rfl (hb hby d14_17) rfl (feq (by decide : ¬ ((1 : Int32) = (2 : Int32)))).2 (by decide) (by decide) (XS.iloadN X3.here hx rfl (hb hby d14_22) rfl (XS.iloadN X3.here hx rfl (hb hby d14_23) rfl (XS.isub X3.here hx rfl (hb hby d14_24) rfl (XS.istore X3.here hx rfl (hb hby d14_25) rfl (l' := #[vR ra0, vI (0 : Int32), vI (1 : Int32), vI (2 : Int32), vI (1 : Int32)]) rfl (XS.aloadN X3.here hx rfl (hb hby d14_27) rfl rfl k)))))))))) ?_
  obtain ⟨cq4, kq4, q4a, q4b, q4c⟩ := isOf hZ eq3 E_ra0
  obtain ⟨_, _, ⟨T4, L4, k4, n4⟩, -, X4, ⟨Lc4, hQ4, l4, y4, z4⟩, st4⟩ := X3.virtualBack hx (y := y4) (z := y4) hown (mvT hZ (own_w hw 52)) (mvT hZ (own_w hw 53)) (notFace_of_selects (args := #[]) (mvT hZ (own_w hw 55))) (mvT hZ (own_w hw 55)) (mvT hZ (own_w hw 54)) (by decide) (backOf (W := 0) (rm10_36 l Z a0 hw ra0 ra1 kc2 ci3 ci4 G1 h0 n0 OLD E_ra0 F_coder_ra0 F_value_ra0 hl_ci3 hl_ci4 V_ra1 O2 P5) hZ (own_w hw 56) (own_w hw 8) (lb rfl) (lb rfl)) q4a q4c (g := (mkF m 28 #[vR ra0, vI (0 : Int32), vI (1 : Int32), vI (2 : Int32), vI (1 : Int32)] [(.ref ra0)])) rfl (by rw [hml]; rfl) (Steps.refl _) (argsL := []) (rest := []) (lenOf pd_4 rfl) rfl (lb rfl) (hb hby d14_28) (fun _ _ => ⟨rfl, eq3, (lb rfl), (lb rfl)⟩)
  dsimp only [Pt.U, Pt.locs, Pt.cells, Pt.slots] at X4 l4 y4 z4 st4 hQ4
  subst l4 y4 z4
  obtain ⟨rfl, Nq4, eq4⟩ := hQ4
  have N4 := Fr.app N3 Nq4
  refine ot T4 (mkF m 31 #[vR ra0, vI (0 : Int32), vI (1 : Int32), vI (2 : Int32), vI (1 : Int32)] [(.int (1 : Int32))]) st4 ?_
  refine og T4 (mkF m 35 #[vR ra0, vI (0 : Int32), vI (1 : Int32), vI (2 : Int32), vI (1 : Int32)] [(.ref ra0)]) (fun _ k => XS.ifNo X4.here hx rfl (hb hby d14_31) rfl ((if0 _ _).trans (feq (by decide : ¬ ((1 : Int32) = (0 : Int32)))).1) (XS.aloadN X4.here hx rfl (hb hby d14_34) rfl rfl k)) ?_
  obtain ⟨T5, X5, e5, st5⟩ := getF X4 hx hZ hown (host := "") (Or.inl (own_w hw 25)) Via.refl eq4 F_value_ra0 (g := (mkF m 35 #[vR ra0, vI (0 : Int32), vI (1 : Int32), vI (2 : Int32), vI (1 : Int32)] [(.ref ra0)])) rfl rfl (hb hby d14_35)
  refine og T5 (mkF m 38 #[vR ra0, vI (0 : Int32), vI (1 : Int32), vI (2 : Int32), vI (1 : Int32)] [(.ref ra1)]) st5 ?_
  refine og T5 (mkF m 41 #[vR ra0, vI (0 : Int32), vI (1 : Int32), vI (2 : Int32), vI (1 : Int32)] [(.int (1 : Int32)), (.int (0 : Int32)), (.ref ra1)]) (fun _ k => XS.iloadN X5.here hx rfl (hb hby d14_38) rfl (XS.iload X5.here hx rfl (hb hby d14_39) rfl k)) ?_
  obtain ⟨_, _, ⟨T6, L6, k6, n6⟩, -, X6, ⟨Lc6, hQ6, l6, y6, z6⟩, st6⟩ := Jvm.LawKit.callS X5 hx (y := y14) hown (mvT hZ (own_w hw 92)) (mvT hZ (own_w hw 93)) (mvT hZ (own_w hw 59)) (mvT hZ (own_w hw 94)) (by decide) (backOf (W := 0) (rm20_45 l Z a0 hw ra1 kc2 ci3 ci4 h0 n0 OLD hl_ci3 hl_ci4 V_ra1) hZ (own_w hw 94) (own_w hw 59) (lb rfl) (lb rfl)) (g := (mkF m 41 #[vR ra0, vI (0 : Int32), vI (1 : Int32), vI (2 : Int32), vI (1 : Int32)] [(.int (1 : Int32)), (.int (0 : Int32)), (.ref ra1)])) rfl (by rw [hml]; rfl) (argsL := [(.ref ra1), (.int (0 : Int32)), (.int (1 : Int32))]) (rest := []) (lenOf pd_13 rfl) rfl (lb rfl) (hb hby d14_41) (fun _ _ => ⟨rfl, e5, (lb rfl), (lb rfl)⟩)
  dsimp only [Pt.U, Pt.locs, Pt.cells, Pt.slots] at X6 l6 y6 z6 st6 hQ6
  subst l6 y6 z6
  obtain ⟨o7, o8, kc9, rfl, Nq6, K6, f10, f11, f12, f13, f14, f15⟩ := hQ6
  have N6 := Fr.app N4 Nq6
  have g16 : n0 ≤ o7 := Nat.le_trans (own_osz OLD) f10
  have z17 : h0.size ≤ o7 := Nat.le_trans (Nat.le_refl _) f10
  have g18 : n0 ≤ o8 := Nat.le_trans (own_osz OLD) f11
  have z19 : h0.size ≤ o8 := Nat.le_trans (Nat.le_refl _) f11
  refine og T6 (mkF m 44 #[vR ra0, vI (0 : Int32), vI (1 : Int32), vI (2 : Int32), vI (1 : Int32)] [(.ref o7)]) st6 ?_
  refine og T6 (mkF m 57 #[vR ra0, vI (0 : Int32), vI (1 : Int32), vI (2 : Int32), vI (1 : Int32)] [(.ref o7)]) (fun _ k => XS.goto X6.here hx rfl (pc0 := 44) (pc' := 57) rfl (hb hby d14_44) (by decide) (by decide) k) ?_
  have KEEP := ((Keep.refl h0 []).trans K6 all0)
  exact own_leaveN X6 hlk (v := some (.ref o7)) (fun h => by rw [hret] at h; cases h) (lb rfl) (lb rfl) (by exact ⟨o7, o8, kc9, rfl, N6, KEEP, z17, z19, f12, f13, f14, f15⟩) (fun fs hr => retOut X6 hx (t := (.object "java/lang/String")) hret rfl (Or.inr (Or.inr (Or.inr (Or.inr ⟨rfl, rfl, rfl⟩)))) (hb hby d14_57) hr)
abbrev R16_53 : Room := { frames := 0, cells := 0, slots := 0, locals := 0 }
def Q16_53 (Z : State) (cv0 : Value) (h0 : Heap) (n0 : Nat) (v : Option Value) (h : Heap) (L : List Loc) : Prop := (v = some (.int (0 : Int32)) ∧ Fr n0 L ∧ h = h0)
theorem rm16_53 (l : Launch) (Z : State) (a0 : Array Value) (hw : HW Z a0) (cv0 : Value) (h0 : Heap) (n0 : Nat) (OLD : Old Z n0 h0) (rf_cv0 : cv0.isRef = true) :
    own_CN l Z y10 jdk_41_method_12_code 4 (some .int) [] R16_53 #[(.int (0 : Int32)), (.int (0 : Int32)), (.int (2 : Int32)), cv0] h0 (Q16_53 Z cv0 h0 n0) := by
  refine own_entryN (plainFor_of_name pn_3) fun p e s m below meth c s₁ hx hby hml hown hnm hret hlk hZ hh X0 e0 => ?_
  have N0 := Fr.nil n0
  rw [ef_16_53 m cv0 rf_cv0]
  refine og s₁ (mkF m 23 #[vI (0 : Int32), vI (0 : Int32), vI (2 : Int32), .val cv0] [(.int (0 : Int32))]) (fun _ k => XS.iloadN X0.here hx rfl (hb hby d16_0) rfl (XS.ifNo X0.here hx rfl (hb hby d16_1) rfl ((if0 _ _).trans (flt (by decide : ¬ ((0 : Int32) < (0 : Int32)))).1) (XS.iloadN X0.here hx rfl (hb hby d16_4) rfl (XS.iloadN X0.here hx rfl (hb hby d16_5) rfl (XS.icmpNo X0.here hx rfl (hb hby d16_6) rfl (flt (by decide : ¬ ((0 : Int32) < (0 : Int32)))).2.2.1 (XS.iloadN X0.here hx rfl (hb hby d16_9) rfl (XS.iloadN X0.here hx rfl (hb hby d16_10) rfl (XS.icmpYes X0.here hx rfl (pc0 := 11) (pc' := 22) rfl (hb hby d16_11) rfl (flt (by decide : ¬ ((2 : Int32) < (0 : Int32)))).2.2.2 (by decide) (by decide) (XS.iloadN X0.here hx rfl (hb hby d16_22) rfl k))))))))) ?_
  exact own_leaveN X0 hlk (v := some (.int (0 : Int32))) (fun h => by rw [hret] at h; cases h) (lb rfl) (lb rfl) (by rw [e0]; exact ⟨rfl, N0, rfl⟩) (fun fs hr => retI X0 hx hret (hb hby d16_23) hr)
abbrev R15_52 : Room := { frames := 1, cells := 0, slots := 0, locals := 15 }
def Q15_52 (Z : State) (G3 : Value) (h0 : Heap) (n0 : Nat) (v : Option Value) (h : Heap) (L : List Loc) : Prop := (v = none ∧ Fr n0 L ∧ h = h0)
theorem rm15_52 (l : Launch) (Z : State) (a0 : Array Value) (hw : HW Z a0) (G3 : Value) (h0 : Heap) (n0 : Nat) (OLD : Old Z n0 h0) (O4 : Sta Z Z.heap "jdk/internal/util/Preconditions" "SIOOBE_FORMATTER" "Ljava/util/function/BiFunction;" G3) (rG3 : G3.isRef = true) :
    own_CN l Z y11 jdk_42_method_158_code 3 none [] R15_52 #[(.int (0 : Int32)), (.int (0 : Int32)), (.int (2 : Int32))] h0 (Q15_52 Z G3 h0 n0) := by
  refine own_entryN (plainFor_of_name pn_1) fun p e s m below meth c s₁ hx hby hml hown hnm hret hlk hZ hh X0 e0 => ?_
  have N0 := Fr.nil n0
  rw [ef_15_52 m ]
  refine og s₁ (mkF m 3 #[vI (0 : Int32), vI (0 : Int32), vI (2 : Int32)] [(.int (2 : Int32)), (.int (0 : Int32)), (.int (0 : Int32))]) (fun _ k => XS.iloadN X0.here hx rfl (hb hby d15_0) rfl (XS.iloadN X0.here hx rfl (hb hby d15_1) rfl (XS.iloadN X0.here hx rfl (hb hby d15_2) rfl k))) ?_
  obtain ⟨T1, X1, e1, st1⟩ := getS2 X0 hx hZ hown (host := "") (Or.inl (own_w hw 76)) Via.refl e0 (O4.ext OLD.2) (g := (mkF m 3 #[vI (0 : Int32), vI (0 : Int32), vI (2 : Int32)] [(.int (2 : Int32)), (.int (0 : Int32)), (.int (0 : Int32))])) rfl (hb hby d15_3)
  refine og T1 (mkF m 6 #[vI (0 : Int32), vI (0 : Int32), vI (2 : Int32)] [G3, (.int (2 : Int32)), (.int (0 : Int32)), (.int (0 : Int32))]) st1 ?_
  obtain ⟨_, _, ⟨T2, L2, k2, n2⟩, -, X2, ⟨Lc2, hQ2, l2, y2, z2⟩, st2⟩ := Jvm.LawKit.callS X1 hx (y := y10) hown (mvT hZ (own_w hw 78)) (mvT hZ (own_w hw 79)) (mvT hZ (own_w hw 77)) (mvT hZ (own_w hw 80)) (by decide) (backOf (W := 0) (rm16_53 l Z a0 hw G3 h0 n0 OLD rG3) hZ (own_w hw 80) (own_w hw 77) (lb rfl) (lb rfl)) (g := (mkF m 6 #[vI (0 : Int32), vI (0 : Int32), vI (2 : Int32)] [G3, (.int (2 : Int32)), (.int (0 : Int32)), (.int (0 : Int32))])) rfl (by rw [hml]; rfl) (argsL := [(.int (0 : Int32)), (.int (0 : Int32)), (.int (2 : Int32)), G3]) (rest := []) (lenOf pd_9 rfl) rfl (lb rfl) (hb hby d15_6) (fun _ _ => ⟨rfl, e1, (lb rfl), (lb rfl)⟩)
  dsimp only [Pt.U, Pt.locs, Pt.cells, Pt.slots] at X2 l2 y2 z2 st2 hQ2
  subst l2 y2 z2
  obtain ⟨rfl, Nq2, eq2⟩ := hQ2
  have N2 := Fr.app N0 Nq2
  refine og T2 (mkF m 9 #[vI (0 : Int32), vI (0 : Int32), vI (2 : Int32)] [(.int (0 : Int32))]) st2 ?_
  refine og T2 (mkF m 10 #[vI (0 : Int32), vI (0 : Int32), vI (2 : Int32)] []) (fun _ k => XS.pop X2.here hx rfl (hb hby d15_9) rfl rfl k) ?_
  exact own_leaveN X2 hlk (v := none) (fun _ => rfl) (lb rfl) (lb rfl) (by rw [eq2]; exact ⟨rfl, N2, rfl⟩) (fun fs hr => X2.returnOut hx hret (hb hby d15_10) hr)
abbrev R20_55 : Room := { frames := 0, cells := 2, slots := 4, locals := 0 }
def Q20_55 (Z : State) (ra0 : Addr) (kc1 : ClassId) (ci2 : Int32) (ci3 : Int32) (h0 : Heap) (n0 : Nat) (v : Option Value) (h : Heap) (L : List Loc) : Prop := (∃ (l1 : Addr) (lb1 : Addr) (lk1 : ClassId), v = some (.ref l1) ∧ Fr n0 L ∧ Keep h0 h [] ∧ l1 < h.size ∧ lb1 < h.size ∧ Exa Z h l1 "java/lang/String" ∧ Fld Z h l1 "java/lang/String" "coder" "B" (.int (0 : Int32)) ∧ Fld Z h l1 "java/lang/String" "value" "[B" (.ref lb1) ∧ Arv Z h lb1 lk1 .byte (0 : Int32) [] (.int (0 : Int32)))
theorem rm20_55 (l : Launch) (Z : State) (a0 : Array Value) (hw : HW Z a0) (ra0 : Addr) (kc1 : ClassId) (ci2 : Int32) (ci3 : Int32) (h0 : Heap) (n0 : Nat) (OLD : Old Z n0 h0) (hl_ci2 : ¬ ci2 < 0 ∧ ¬ (255 : Int32) < ci2) (hl_ci3 : ¬ ci3 < 0 ∧ ¬ (255 : Int32) < ci3) (V_ra0 : Arv Z h0 ra0 kc1 .byte (2 : Int32) [(.int (ci2.toInt8.toInt32)), (.int (ci3.toInt8.toInt32))] (.int (0 : Int32))) :
    own_CW l Z y14 jdk_43_method_47_code 3 (some (.object "java/lang/String")) [] R20_55 #[(.ref ra0), (.int (0 : Int32)), (.int (0 : Int32))] h0 [] (Q20_55 Z ra0 kc1 ci2 ci3 h0 n0) := by
  refine own_entryW (plainFor_of_name pn_2) fun p e s m below meth c s₁ hx hby hml hown hnm hret hlk hZ hh hCH hSf X0 e0 => ?_
  have N0 := Fr.nil n0
  have hS0 : s.Since s.vm h0.size := own_since s _
  have hk0 : h0.size ≤ h0.size := Nat.le_refl _
  have CH0 : CHr Z own_EL s.vm h0 s.vm h0 := CHr.refl hCH
  rw [ef_20_55 m ra0]
  refine og s₁ (mkF m 4 #[vR ra0, vI (0 : Int32), vI (0 : Int32)] []) (fun _ k => XS.iloadN X0.here hx rfl (hb hby d20_0) rfl (XS.ifNo X0.here hx rfl (hb hby d20_1) rfl ((if0 _ _).trans (teq (by decide : (0 : Int32) = (0 : Int32))).2) k)) ?_
  obtain ⟨l1, T1, h1, k1, lb1, lk1, X1, e1, E1, hS1, hk1, hZ1, hown1, Ex1, Fc1, Fv1, Av1, la1, lz1, ch1, Lt1, sf1, st1⟩ := ldcCH X0 hx hZ hown (own_w hw 128) (own_wS hw) e0 hS0 hk0 (own_EW hw) (by decide) CH0.1 (vs := []) (z := (0 : Int32)) (by decide) (by decide) (by decide) (g := (mkF m 4 #[vR ra0, vI (0 : Int32), vI (0 : Int32)] [])) rfl (hb hby d20_4) (n := 0) (by decide) (by decide) (lb rfl) (lb rfl)
  have CH2 := CHr.trans CH0 ch1
  refine og T1 (mkF m 6 #[vR ra0, vI (0 : Int32), vI (0 : Int32)] [(.ref l1)]) st1 ?_
  have KEEP := ((Keep.refl h0 []).ext E1)
  exact own_leaveW (s := s) (vm0 := T1.vm) X1 hS1 hk1 hZ1 (own_EW hw) e1 CH2 hh hlk (v := some (.ref l1)) (fun h => by rw [hret] at h; cases h) (lb rfl) (lb rfl) (by rw [e1]; exact ⟨l1, lb1, lk1, rfl, N0, KEEP, la1, lz1, Ex1, Fc1, Fv1, Av1⟩) (fun fs hr => retOut X1 hx (t := (.object "java/lang/String")) hret rfl (Or.inr (Or.inr (Or.inr (Or.inr ⟨rfl, rfl, rfl⟩)))) (hb hby d20_6) hr)
abbrev R14_56 : Room := { frames := 2, cells := 2, slots := 4, locals := 29 }
def Q14_56 (Z : State) (ra0 : Addr) (ra1 : Addr) (kc2 : ClassId) (ci3 : Int32) (ci4 : Int32) (G1 : Int32) (G3 : Value) (h0 : Heap) (n0 : Nat) (v : Option Value) (h : Heap) (L : List Loc) : Prop := (∃ (o7 : Addr) (o8 : Addr) (kc9 : ClassId), v = some (.ref o7) ∧ Fr n0 L ∧ Keep h0 h [] ∧ o7 < h.size ∧ o8 < h.size ∧ Exa Z h o7 "java/lang/String" ∧ Fld Z h o7 "java/lang/String" "coder" "B" (.int (0 : Int32)) ∧ Fld Z h o7 "java/lang/String" "value" "[B" (.ref o8) ∧ Arv Z h o8 kc9 .byte (0 : Int32) [] (.int (0 : Int32)))
theorem rm14_56 (l : Launch) (Z : State) (a0 : Array Value) (hw : HW Z a0) (ra0 : Addr) (ra1 : Addr) (kc2 : ClassId) (ci3 : Int32) (ci4 : Int32) (G1 : Int32) (G3 : Value) (h0 : Heap) (n0 : Nat) (OLD : Old Z n0 h0) (E_ra0 : Exa Z h0 ra0 "java/lang/String") (F_coder_ra0 : Fld Z h0 ra0 "java/lang/String" "coder" "B" (.int (0 : Int32))) (F_value_ra0 : Fld Z h0 ra0 "java/lang/String" "value" "[B" (.ref ra1)) (hl_ci3 : ¬ ci3 < 0 ∧ ¬ (255 : Int32) < ci3) (hl_ci4 : ¬ ci4 < 0 ∧ ¬ (255 : Int32) < ci4) (V_ra1 : Arv Z h0 ra1 kc2 .byte (2 : Int32) [(.int (ci3.toInt8.toInt32)), (.int (ci4.toInt8.toInt32))] (.int (0 : Int32))) (O2 : Sta Z Z.heap "java/lang/String" "COMPACT_STRINGS" "Z" (.int G1)) (P5 : ¬ (G1 = (0 : Int32))) (O4 : Sta Z Z.heap "jdk/internal/util/Preconditions" "SIOOBE_FORMATTER" "Ljava/util/function/BiFunction;" G3) (rG3 : G3.isRef = true) :
    own_CW l Z y12 jdk_42_method_92_code 5 (some (.object "java/lang/String")) [] R14_56 #[(.ref ra0), (.int (0 : Int32)), (.int (0 : Int32))] h0 [] (Q14_56 Z ra0 ra1 kc2 ci3 ci4 G1 G3 h0 n0) := by
  refine own_entryW (plainFor_of_name pn_1) fun p e s m below meth c s₁ hx hby hml hown hnm hret hlk hZ hh hCH hSf X0 e0 => ?_
  have N0 := Fr.nil n0
  have hS0 : s.Since s.vm h0.size := own_since s _
  have hk0 : h0.size ≤ h0.size := Nat.le_refl _
  have CH0 : CHr Z own_EL s.vm h0 s.vm h0 := CHr.refl hCH
  rw [ef_14_56 m ra0]
  refine og s₁ (mkF m 1 #[vR ra0, vI (0 : Int32), vI (0 : Int32), vU, vU] [(.ref ra0)]) (fun _ k => XS.aloadN X0.here hx rfl (hb hby d14_0) rfl rfl k) ?_
  have hp1 : ∀ c ∈ ([ci3, ci4] : List Int32), ¬ c < 0 ∧ ¬ (255 : Int32) < c := by
    intro c hc
    simp only [List.mem_cons, List.not_mem_nil, or_false] at hc
    rcases hc with rfl | rfl
    · exact hl_ci3
    · exact hl_ci4
  obtain ⟨cq2, kq2, q2a, q2b, q2c⟩ := isOf hZ e0 E_ra0
  obtain ⟨_, _, ⟨T2, L2, k2, n2⟩, -, X2, ⟨Lc2, hQ2, l2, y2, z2⟩, st2⟩ := X0.virtualBack hx (y := y3) (z := y3) hown (mvT hZ (own_w hw 36)) (mvT hZ (own_w hw 37)) (notFace_of_selects (args := #[]) (mvT hZ (own_w hw 39))) (mvT hZ (own_w hw 39)) (mvT hZ (own_w hw 38)) (by decide) (StrChars.Road.lenW (W := 0) hZ (own_hln hw) (kI := 4) (own_w hw 7) (cs := ([ci3, ci4] : List Int32)) E_ra0 F_value_ra0 F_coder_ra0 V_ra1 (StrChars.Road.codOf rfl (fun c hc => (hp1 c hc).2)) (own_up _ hp1) (O2.ext OLD.2) P5 (lb rfl) (lb rfl) (lb rfl)) q2a q2c (g := (mkF m 1 #[vR ra0, vI (0 : Int32), vI (0 : Int32), vU, vU] [(.ref ra0)])) rfl (by rw [hml]; rfl) (Steps.refl _) (argsL := []) (rest := []) (lenOf pd_3 rfl) rfl (lb rfl) (hb hby d14_1) (fun _ _ => ⟨rfl, e0, (lb rfl), (lb rfl)⟩)
  dsimp only [Pt.U, Pt.locs, Pt.cells, Pt.slots] at X2 l2 y2 z2 st2 hQ2
  subst l2 y2 z2
  obtain ⟨rfl, rfl, eq2⟩ := hQ2
  have N2 := Fr.app N0 (Fr.nil n0)
  refine ot T2 (mkF m 4 #[vR ra0, vI (0 : Int32), vI (0 : Int32), vU, vU] [(.int (2 : Int32))]) st2 ?_
  refine og T2 (mkF m 8 #[vR ra0, vI (0 : Int32), vI (0 : Int32), vI (2 : Int32), vU] [(.int (2 : Int32)), (.int (0 : Int32)), (.int (0 : Int32))]) (fun _ k => XS.istoreN X2.here hx rfl (hb hby d14_4) rfl (l' := #[vR ra0, vI (0 : Int32), vI (0 : Int32), vI (2 : Int32), vU]) rfl (XS.iloadN X2.here hx rfl (hb hby d14_5) rfl (XS.iloadN X2.here hx rfl (hb hby d14_6) rfl (XS.iloadN X2.here hx rfl (hb hby d14_7) rfl k)))) ?_
  obtain ⟨_, _, ⟨T3, L3, k3, n3⟩, -, X3, ⟨Lc3, hQ3, l3, y3, z3⟩, st3⟩ := Jvm.LawKit.callS X2 hx (y := y11) hown (mvT hZ (own_w hw 73)) (mvT hZ (own_w hw 74)) (mvT hZ (own_w hw 8)) (mvT hZ (own_w hw 75)) (by decide) (backOf (W := 0) (rm15_52 l Z a0 hw G3 h0 n0 OLD O4 rG3) hZ (own_w hw 75) (own_w hw 8) (lb rfl) (lb rfl)) (g := (mkF m 8 #[vR ra0, vI (0 : Int32), vI (0 : Int32), vI (2 : Int32), vU] [(.int (2 : Int32)), (.int (0 : Int32)), (.int (0 : Int32))])) rfl (by rw [hml]; rfl) (argsL := [(.int (0 : Int32)), (.int (0 : Int32)), (.int (2 : Int32))]) (rest := []) (lenOf pd_10 rfl) rfl (lb rfl) (hb hby d14_8) (fun _ _ => ⟨rfl, eq2, (lb rfl), (lb rfl)⟩)
  dsimp only [Pt.U, Pt.locs, Pt.cells, Pt.slots] at X3 l3 y3 z3 st3 hQ3
  subst l3 y3 z3
  obtain ⟨rfl, Nq3, eq3⟩ := hQ3
  have N3 := Fr.app N2 Nq3
  refine og T3 (mkF m 11 #[vR ra0, vI (0 : Int32), vI (0 : Int32), vI (2 : Int32), vU] []) st3 ?_
  refine og T3 (mkF m 28 #[vR ra0, vI (0 : Int32), vI (0 : Int32), vI (2 : Int32), vI (0 : Int32)] [(.ref ra0)]) (fun _ k => XS.iloadN X3.here hx rfl (hb hby d14_11) rfl (XS.ifNo X3.here hx rfl (hb hby d14_12) rfl ((if0 _ _).trans (teq (by decide : (0 : Int32) = (0 : Int32))).2) (XS.iloadN X3.here hx rfl (hb hby d14_15) rfl (XS.iloadN X3.here hx rfl (hb hby d14_16) rfl (XS.icmpYes X3.here hx rfl (pc0 := 17) (pc' := 22) rfl (hb hby d14_17) rfl (feq (by decide : ¬ ((0 : Int32) = (2 : Int32)))).2 (by decide) (by decide) (XS.iloadN X3.here hx rfl (hb hby d14_22) rfl (XS.iloadN X3.here hx rfl (hb hby d14_23) rfl (XS.isub X3.here hx rfl (hb hby d14_24) rfl (XS.istore X3.here hx rfl (hb hby d14_25) rfl (l' := #[vR ra0, vI (0 : Int32), vI (0 : Int32), vI (2 : Int32), vI (0 : Int32)]) rfl (XS.aloadN X3.here hx rfl (hb hby d14_27) rfl rfl k)))))))))) ?_
  obtain ⟨cq4, kq4, q4a, q4b, q4c⟩ := isOf hZ eq3 E_ra0
  obtain ⟨_, _, ⟨T4, L4, k4, n4⟩, -, X4, ⟨Lc4, hQ4, l4, y4, z4⟩, st4⟩ := X3.virtualBack hx (y := y4) (z := y4) hown (mvT hZ (own_w hw 52)) (mvT hZ (own_w hw 53)) (notFace_of_selects (args := #[]) (mvT hZ (own_w hw 55))) (mvT hZ (own_w hw 55)) (mvT hZ (own_w hw 54)) (by decide) (backOf (W := 0) (rm10_36 l Z a0 hw ra0 ra1 kc2 ci3 ci4 G1 h0 n0 OLD E_ra0 F_coder_ra0 F_value_ra0 hl_ci3 hl_ci4 V_ra1 O2 P5) hZ (own_w hw 56) (own_w hw 8) (lb rfl) (lb rfl)) q4a q4c (g := (mkF m 28 #[vR ra0, vI (0 : Int32), vI (0 : Int32), vI (2 : Int32), vI (0 : Int32)] [(.ref ra0)])) rfl (by rw [hml]; rfl) (Steps.refl _) (argsL := []) (rest := []) (lenOf pd_4 rfl) rfl (lb rfl) (hb hby d14_28) (fun _ _ => ⟨rfl, eq3, (lb rfl), (lb rfl)⟩)
  dsimp only [Pt.U, Pt.locs, Pt.cells, Pt.slots] at X4 l4 y4 z4 st4 hQ4
  subst l4 y4 z4
  obtain ⟨rfl, Nq4, eq4⟩ := hQ4
  have N4 := Fr.app N3 Nq4
  refine ot T4 (mkF m 31 #[vR ra0, vI (0 : Int32), vI (0 : Int32), vI (2 : Int32), vI (0 : Int32)] [(.int (1 : Int32))]) st4 ?_
  refine og T4 (mkF m 35 #[vR ra0, vI (0 : Int32), vI (0 : Int32), vI (2 : Int32), vI (0 : Int32)] [(.ref ra0)]) (fun _ k => XS.ifNo X4.here hx rfl (hb hby d14_31) rfl ((if0 _ _).trans (feq (by decide : ¬ ((1 : Int32) = (0 : Int32)))).1) (XS.aloadN X4.here hx rfl (hb hby d14_34) rfl rfl k)) ?_
  obtain ⟨T5, X5, e5, st5⟩ := getF X4 hx hZ hown (host := "") (Or.inl (own_w hw 25)) Via.refl eq4 F_value_ra0 (g := (mkF m 35 #[vR ra0, vI (0 : Int32), vI (0 : Int32), vI (2 : Int32), vI (0 : Int32)] [(.ref ra0)])) rfl rfl (hb hby d14_35)
  refine og T5 (mkF m 38 #[vR ra0, vI (0 : Int32), vI (0 : Int32), vI (2 : Int32), vI (0 : Int32)] [(.ref ra1)]) st5 ?_
  refine og T5 (mkF m 41 #[vR ra0, vI (0 : Int32), vI (0 : Int32), vI (2 : Int32), vI (0 : Int32)] [(.int (0 : Int32)), (.int (0 : Int32)), (.ref ra1)]) (fun _ k => XS.iloadN X5.here hx rfl (hb hby d14_38) rfl (XS.iload X5.here hx rfl (hb hby d14_39) rfl k)) ?_
  obtain ⟨_, _, ⟨T6, L6, k6, n6⟩, -, X6, hs6, hg6, ⟨Lc6, hQ6, l6, y6, z6, ch6⟩, st6⟩ := callSS X5 hx (y := y14) hown (mvT hZ (own_w hw 92)) (mvT hZ (own_w hw 93)) (mvT hZ (own_w hw 59)) (mvT hZ (own_w hw 94)) (by decide) (own_backSH (W := 0) (rm20_55 l Z a0 hw ra1 kc2 ci3 ci4 h0 n0 OLD hl_ci3 hl_ci4 V_ra1) hZ (own_w hw 94) (own_w hw 59) (lb rfl) (lb rfl) (own_EW hw) CH0.1 all0) (g := (mkF m 41 #[vR ra0, vI (0 : Int32), vI (0 : Int32), vI (2 : Int32), vI (0 : Int32)] [(.int (0 : Int32)), (.int (0 : Int32)), (.ref ra1)])) rfl (by rw [hml]; rfl) (argsL := [(.ref ra1), (.int (0 : Int32)), (.int (0 : Int32))]) (rest := []) (lenOf pd_13 rfl) rfl (lb rfl) (hb hby d14_41) (fun _ _ => ⟨rfl, e5, (lb rfl), (lb rfl)⟩)
  dsimp only [Pt.U, Pt.locs, Pt.cells, Pt.slots] at X6 l6 y6 z6 st6 hQ6 hs6 hg6 ch6
  subst l6 y6 z6
  replace X6 := own_reb X6
  obtain ⟨hZ6, hS6, hown6⟩ := own_after hZ hS0 e5 hk0 hs6 hg6 hown
  obtain ⟨o7, o8, kc9, rfl, Nq6, K6, f10, f11, f12, f13, f14, f15⟩ := hQ6
  have N6 := Fr.app N4 Nq6
  have CH16 := CHr.trans CH0 ch6
  refine ot T6 (mkF m 44 #[vR ra0, vI (0 : Int32), vI (0 : Int32), vI (2 : Int32), vI (0 : Int32)] [(.ref o7)]) st6 ?_
  refine og T6 (mkF m 57 #[vR ra0, vI (0 : Int32), vI (0 : Int32), vI (2 : Int32), vI (0 : Int32)] [(.ref o7)]) (fun _ k => XS.goto X6.here hx rfl (pc0 := 44) (pc' := 57) rfl (hb hby d14_44) (by decide) (by decide) k) ?_
  have KEEP := ((Keep.refl h0 []).trans K6 all0)
  exact own_leaveW (s := s) (vm0 := T6.vm) X6 hS6 (Nat.le_refl _) hZ6 (own_EW hw) rfl CH16 hh hlk (v := some (.ref o7)) (fun h => by rw [hret] at h; cases h) (lb rfl) (lb rfl) (by exact ⟨o7, o8, kc9, rfl, N6, KEEP, f10, f11, f12, f13, f14, f15⟩) (fun fs hr => retOut X6 hx (t := (.object "java/lang/String")) hret rfl (Or.inr (Or.inr (Or.inr (Or.inr ⟨rfl, rfl, rfl⟩)))) (hb hby d14_57) hr)
abbrev R5_57 : Room := { frames := 5, cells := 2, slots := 5, locals := 80 }
def Q5_57 (Z : State) (ra0 : Addr) (ra1 : Addr) (kc2 : ClassId) (ci3 : Int32) (ci4 : Int32) (G1 : Int32) (G3 : Value) (h0 : Heap) (n0 : Nat) (v : Option Value) (h : Heap) (L : List Loc) : Prop := ((ci4.toInt8.toInt32) = (46 : Int32) ∧ v = some (.ref ra0) ∧ Fr n0 L ∧ h = h0) ∨ (∃ (o7 : Addr) (o8 : Addr) (kc9 : ClassId), (¬ ((ci4.toInt8.toInt32) = (46 : Int32))) ∧ (ci3.toInt8.toInt32) = (46 : Int32) ∧ v = some (.ref o7) ∧ Fr n0 L ∧ Keep h0 h [] ∧ h0.size ≤ o7 ∧ h0.size ≤ o8 ∧ Exa Z h o7 "java/lang/String" ∧ Fld Z h o7 "java/lang/String" "coder" "B" (.int (0 : Int32)) ∧ Fld Z h o7 "java/lang/String" "value" "[B" (.ref o8) ∧ Arv Z h o8 kc9 .byte (1 : Int32) [(.int (ci3.toInt8.toInt32))] (.int (0 : Int32))) ∨ (∃ (o26 : Addr) (o27 : Addr) (kc28 : ClassId), (¬ ((ci4.toInt8.toInt32) = (46 : Int32))) ∧ (¬ ((ci3.toInt8.toInt32) = (46 : Int32))) ∧ v = some (.ref o26) ∧ Fr n0 L ∧ Keep h0 h [] ∧ o26 < h.size ∧ o27 < h.size ∧ Exa Z h o26 "java/lang/String" ∧ Fld Z h o26 "java/lang/String" "coder" "B" (.int (0 : Int32)) ∧ Fld Z h o26 "java/lang/String" "value" "[B" (.ref o27) ∧ Arv Z h o27 kc28 .byte (0 : Int32) [] (.int (0 : Int32)))
theorem rm5_57 (l : Launch) (Z : State) (a0 : Array Value) (hw : HW Z a0) (ra0 : Addr) (ra1 : Addr) (kc2 : ClassId) (ci3 : Int32) (ci4 : Int32) (G1 : Int32) (G3 : Value) (h0 : Heap) (n0 : Nat) (OLD : Old Z n0 h0) (E_ra0 : Exa Z h0 ra0 "java/lang/String") (F_coder_ra0 : Fld Z h0 ra0 "java/lang/String" "coder" "B" (.int (0 : Int32))) (F_value_ra0 : Fld Z h0 ra0 "java/lang/String" "value" "[B" (.ref ra1)) (hl_ci3 : ¬ ci3 < 0 ∧ ¬ (255 : Int32) < ci3) (hl_ci4 : ¬ ci4 < 0 ∧ ¬ (255 : Int32) < ci4) (V_ra1 : Arv Z h0 ra1 kc2 .byte (2 : Int32) [(.int (ci3.toInt8.toInt32)), (.int (ci4.toInt8.toInt32))] (.int (0 : Int32))) (O2 : Sta Z Z.heap "java/lang/String" "COMPACT_STRINGS" "Z" (.int G1)) (P5 : ¬ (G1 = (0 : Int32))) (O4 : Sta Z Z.heap "jdk/internal/util/Preconditions" "SIOOBE_FORMATTER" "Ljava/util/function/BiFunction;" G3) (rG3 : G3.isRef = true) :
    own_CW l Z y13 prog_41_method_5_code 1 (some (.object "java/lang/String")) [] R5_57 #[(.ref ra0)] h0 [] (Q5_57 Z ra0 ra1 kc2 ci3 ci4 G1 G3 h0 n0) := by
  refine own_entryW (plainFor_of_name pn_4) fun p e s m below meth c s₁ hx hby hml hown hnm hret hlk hZ hh hCH hSf X0 e0 => ?_
  have N0 := Fr.nil n0
  have hS0 : s.Since s.vm h0.size := own_since s _
  have hk0 : h0.size ≤ h0.size := Nat.le_refl _
  have CH0 : CHr Z own_EL s.vm h0 s.vm h0 := CHr.refl hCH
  rw [ef_5_57 m ra0]
  refine og s₁ (mkF m 5 #[vR ra0] [(.int (46 : Int32)), (.ref ra0), (.int (0 : Int32)), (.ref ra0)]) (fun _ k => XS.aloadN X0.here hx rfl (hb hby d5_0) rfl rfl (XS.iconst X0.here hx rfl (hb hby d5_1) (XS.aloadN X0.here hx rfl (hb hby d5_2) rfl rfl (XS.bipush X0.here hx rfl (hb hby d5_3) k)))) ?_
  obtain ⟨cq1, kq1, q1a, q1b, q1c⟩ := isOf hZ e0 E_ra0
  obtain ⟨_, _, ⟨T1, L1, k1, n1⟩, -, X1, ⟨Lc1, hQ1, l1, y1, z1⟩, st1⟩ := X0.virtualBack hx (y := y9) (z := y9) hown (mvT hZ (own_w hw 31)) (mvT hZ (own_w hw 32)) (notFace_of_selects (args := #[]) (mvT hZ (own_w hw 34))) (mvT hZ (own_w hw 34)) (mvT hZ (own_w hw 33)) (by decide) (backOf (W := 2) (rm6_34 l Z a0 hw ra0 ra1 kc2 ci3 ci4 G1 h0 n0 OLD E_ra0 F_coder_ra0 F_value_ra0 hl_ci3 hl_ci4 V_ra1 O2 P5) hZ (own_w hw 35) (own_w hw 8) (lb rfl) (lb rfl)) q1a q1c (g := (mkF m 5 #[vR ra0] [(.int (46 : Int32)), (.ref ra0), (.int (0 : Int32)), (.ref ra0)])) rfl (by rw [hml]; rfl) (Steps.refl _) (argsL := [(.int (46 : Int32))]) (rest := [(.int (0 : Int32)), (.ref ra0)]) (lenOf pd_8 rfl) rfl (lb rfl) (hb hby d5_5) (fun _ _ => ⟨rfl, e0, (lb rfl), (lb rfl)⟩)
  dsimp only [Pt.U, Pt.locs, Pt.cells, Pt.slots] at X1 l1 y1 z1 st1 hQ1
  subst l1 y1 z1
  rcases hQ1 with hQ1 | hQ1 | hQ1
  · obtain ⟨hc2, rfl, Nq1, eq1⟩ := hQ1
    have N1 := Fr.app N0 Nq1
    refine ot T1 (mkF m 8 #[vR ra0] [(.int (1 : Int32)), (.int (0 : Int32)), (.ref ra0)]) st1 ?_
    refine og T1 (mkF m 10 #[vR ra0] [(.int (2 : Int32)), (.int (0 : Int32)), (.ref ra0)]) (fun _ k => XS.iconst X1.here hx rfl (hb hby d5_8) (XS.iadd X1.here hx rfl (hb hby d5_9) rfl k)) ?_
    obtain ⟨cq3, kq3, q3a, q3b, q3c⟩ := isOf hZ eq1 E_ra0
    obtain ⟨_, _, ⟨T3, L3, k3, n3⟩, -, X3, ⟨Lc3, hQ3, l3, y3, z3⟩, st3⟩ := X1.virtualBack hx (y := y12) (z := y12) hown (mvT hZ (own_w hw 68)) (mvT hZ (own_w hw 69)) (notFace_of_selects (args := #[]) (mvT hZ (own_w hw 71))) (mvT hZ (own_w hw 71)) (mvT hZ (own_w hw 70)) (by decide) (backOf (W := 0) (rm14_39 l Z a0 hw ra0 ra1 kc2 ci3 ci4 G1 G3 h0 n0 OLD E_ra0 F_coder_ra0 F_value_ra0 hl_ci3 hl_ci4 V_ra1 O2 P5 O4 rG3) hZ (own_w hw 72) (own_w hw 8) (lb rfl) (lb rfl)) q3a q3c (g := (mkF m 10 #[vR ra0] [(.int (2 : Int32)), (.int (0 : Int32)), (.ref ra0)])) rfl (by rw [hml]; rfl) (Steps.refl _) (argsL := [(.int (0 : Int32)), (.int (2 : Int32))]) (rest := []) (lenOf pd_11 rfl) rfl (lb rfl) (hb hby d5_10) (fun _ _ => ⟨rfl, eq1, (lb rfl), (lb rfl)⟩)
    dsimp only [Pt.U, Pt.locs, Pt.cells, Pt.slots] at X3 l3 y3 z3 st3 hQ3
    subst l3 y3 z3
    obtain ⟨rfl, Nq3, eq3⟩ := hQ3
    have N3 := Fr.app N1 Nq3
    refine ot T3 (mkF m 13 #[vR ra0] [(.ref ra0)]) st3 ?_
    exact own_leaveW (s := s) (vm0 := s.vm) X3 hS0 hk0 hZ (own_EW hw) eq3 CH0 hh hlk (v := some (.ref ra0)) (fun h => by rw [hret] at h; cases h) (lb rfl) (lb rfl) (by rw [eq3]; exact (Or.inl ⟨hc2, rfl, N3, rfl⟩)) (fun fs hr => retOut X3 hx (t := (.object "java/lang/String")) hret rfl (Or.inr (Or.inr (Or.inr (Or.inr ⟨rfl, rfl, rfl⟩)))) (hb hby d5_13) hr)
  · obtain ⟨hc4, hc5, rfl, Nq1, eq1⟩ := hQ1
    have N1 := Fr.app N0 Nq1
    refine ot T1 (mkF m 8 #[vR ra0] [(.int (0 : Int32)), (.int (0 : Int32)), (.ref ra0)]) st1 ?_
    refine og T1 (mkF m 10 #[vR ra0] [(.int (1 : Int32)), (.int (0 : Int32)), (.ref ra0)]) (fun _ k => XS.iconst X1.here hx rfl (hb hby d5_8) (XS.iadd X1.here hx rfl (hb hby d5_9) rfl k)) ?_
    obtain ⟨cq6, kq6, q6a, q6b, q6c⟩ := isOf hZ eq1 E_ra0
    obtain ⟨_, _, ⟨T6, L6, k6, n6⟩, -, X6, ⟨Lc6, hQ6, l6, y6, z6⟩, st6⟩ := X1.virtualBack hx (y := y12) (z := y12) hown (mvT hZ (own_w hw 68)) (mvT hZ (own_w hw 69)) (notFace_of_selects (args := #[]) (mvT hZ (own_w hw 71))) (mvT hZ (own_w hw 71)) (mvT hZ (own_w hw 70)) (by decide) (backOf (W := 0) (rm14_42 l Z a0 hw ra0 ra1 kc2 ci3 ci4 G1 G3 h0 n0 OLD E_ra0 F_coder_ra0 F_value_ra0 hl_ci3 hl_ci4 V_ra1 O2 P5 O4 rG3) hZ (own_w hw 72) (own_w hw 8) (lb rfl) (lb rfl)) q6a q6c (g := (mkF m 10 #[vR ra0] [(.int (1 : Int32)), (.int (0 : Int32)), (.ref ra0)])) rfl (by rw [hml]; rfl) (Steps.refl _) (argsL := [(.int (0 : Int32)), (.int (1 : Int32))]) (rest := []) (lenOf pd_11 rfl) rfl (lb rfl) (hb hby d5_10) (fun _ _ => ⟨rfl, eq1, (lb rfl), (lb rfl)⟩)
    dsimp only [Pt.U, Pt.locs, Pt.cells, Pt.slots] at X6 l6 y6 z6 st6 hQ6
    subst l6 y6 z6
    obtain ⟨o7, o8, kc9, rfl, Nq6, K6, f10, f11, f12, f13, f14, f15⟩ := hQ6
    have N6 := Fr.app N1 Nq6
    have g16 : n0 ≤ o7 := Nat.le_trans (own_osz OLD) f10
    have z17 : h0.size ≤ o7 := Nat.le_trans (Nat.le_refl _) f10
    have g18 : n0 ≤ o8 := Nat.le_trans (own_osz OLD) f11
    have z19 : h0.size ≤ o8 := Nat.le_trans (Nat.le_refl _) f11
    have ch20 := CHr.keep K6 all0 CH0.1
    have CH21 := CHr.trans CH0 ch20
    refine ot T6 (mkF m 13 #[vR ra0] [(.ref o7)]) st6 ?_
    have KEEP := ((Keep.refl h0 []).trans K6 all0)
    have F22 := (Nat.le_trans hk0 K6.1)
    exact own_leaveW (s := s) (vm0 := s.vm) X6 hS0 F22 hZ (own_EW hw) rfl CH21 hh hlk (v := some (.ref o7)) (fun h => by rw [hret] at h; cases h) (lb rfl) (lb rfl) (by exact (Or.inr (Or.inl ⟨o7, o8, kc9, hc4, hc5, rfl, N6, KEEP, z17, z19, f12, f13, f14, f15⟩))) (fun fs hr => retOut X6 hx (t := (.object "java/lang/String")) hret rfl (Or.inr (Or.inr (Or.inr (Or.inr ⟨rfl, rfl, rfl⟩)))) (hb hby d5_13) hr)
  · obtain ⟨hc23, hc24, rfl, Nq1, eq1⟩ := hQ1
    have N1 := Fr.app N0 Nq1
    refine ot T1 (mkF m 8 #[vR ra0] [(.int (-1 : Int32)), (.int (0 : Int32)), (.ref ra0)]) st1 ?_
    refine og T1 (mkF m 10 #[vR ra0] [(.int (0 : Int32)), (.int (0 : Int32)), (.ref ra0)]) (fun _ k => XS.iconst X1.here hx rfl (hb hby d5_8) (XS.iadd X1.here hx rfl (hb hby d5_9) rfl k)) ?_
    obtain ⟨cq25, kq25, q25a, q25b, q25c⟩ := isOf hZ eq1 E_ra0
    obtain ⟨_, _, ⟨T25, L25, k25, n25⟩, -, X25, hs25, hg25, ⟨Lc25, hQ25, l25, y25, z25, ch25⟩, st25⟩ := X1.virtualBackS hx (y := y12) (z := y12) hown (mvT hZ (own_w hw 68)) (mvT hZ (own_w hw 69)) (notFace_of_selects (args := #[]) (mvT hZ (own_w hw 71))) (mvT hZ (own_w hw 71)) (mvT hZ (own_w hw 70)) (by decide) (own_backSH (W := 0) (rm14_56 l Z a0 hw ra0 ra1 kc2 ci3 ci4 G1 G3 h0 n0 OLD E_ra0 F_coder_ra0 F_value_ra0 hl_ci3 hl_ci4 V_ra1 O2 P5 O4 rG3) hZ (own_w hw 72) (own_w hw 8) (lb rfl) (lb rfl) (own_EW hw) CH0.1 all0) q25a q25c (g := (mkF m 10 #[vR ra0] [(.int (0 : Int32)), (.int (0 : Int32)), (.ref ra0)])) rfl (by rw [hml]; rfl) (Steps.refl _) (argsL := [(.int (0 : Int32)), (.int (0 : Int32))]) (rest := []) (lenOf pd_11 rfl) rfl (lb rfl) (hb hby d5_10) (fun _ _ => ⟨rfl, eq1, (lb rfl), (lb rfl)⟩)
    dsimp only [Pt.U, Pt.locs, Pt.cells, Pt.slots] at X25 l25 y25 z25 st25 hQ25 hs25 hg25 ch25
    subst l25 y25 z25
    replace X25 := own_reb X25
    obtain ⟨hZ25, hS25, hown25⟩ := own_after hZ hS0 eq1 hk0 hs25 hg25 hown
    obtain ⟨o26, o27, kc28, rfl, Nq25, K25, f29, f30, f31, f32, f33, f34⟩ := hQ25
    have N25 := Fr.app N1 Nq25
    have CH35 := CHr.trans CH0 ch25
    refine ot T25 (mkF m 13 #[vR ra0] [(.ref o26)]) st25 ?_
    have KEEP := ((Keep.refl h0 []).trans K25 all0)
    exact own_leaveW (s := s) (vm0 := T25.vm) X25 hS25 (Nat.le_refl _) hZ25 (own_EW hw) rfl CH35 hh hlk (v := some (.ref o26)) (fun h => by rw [hret] at h; cases h) (lb rfl) (lb rfl) (by exact (Or.inr (Or.inr ⟨o26, o27, kc28, hc23, hc24, rfl, N25, KEEP, f29, f30, f31, f32, f33, f34⟩))) (fun fs hr => retOut X25 hx (t := (.object "java/lang/String")) hret rfl (Or.inr (Or.inr (Or.inr (Or.inr ⟨rfl, rfl, rfl⟩)))) (hb hby d5_13) hr)
abbrev R10_61 : Room := { frames := 0, cells := 0, slots := 0, locals := 0 }
def Q10_61 (Z : State) (ra0 : Addr) (ra1 : Addr) (kc2 : ClassId) (ci3 : Int32) (ci4 : Int32) (ci5 : Int32) (G1 : Int32) (h0 : Heap) (n0 : Nat) (v : Option Value) (h : Heap) (L : List Loc) : Prop := (v = some (.int (1 : Int32)) ∧ Fr n0 L ∧ h = h0)
theorem rm10_61 (l : Launch) (Z : State) (a0 : Array Value) (hw : HW Z a0) (ra0 : Addr) (ra1 : Addr) (kc2 : ClassId) (ci3 : Int32) (ci4 : Int32) (ci5 : Int32) (G1 : Int32) (h0 : Heap) (n0 : Nat) (OLD : Old Z n0 h0) (E_ra0 : Exa Z h0 ra0 "java/lang/String") (F_coder_ra0 : Fld Z h0 ra0 "java/lang/String" "coder" "B" (.int (0 : Int32))) (F_value_ra0 : Fld Z h0 ra0 "java/lang/String" "value" "[B" (.ref ra1)) (hl_ci3 : ¬ ci3 < 0 ∧ ¬ (255 : Int32) < ci3) (hl_ci4 : ¬ ci4 < 0 ∧ ¬ (255 : Int32) < ci4) (hl_ci5 : ¬ ci5 < 0 ∧ ¬ (255 : Int32) < ci5) (V_ra1 : Arv Z h0 ra1 kc2 .byte (3 : Int32) [(.int (ci3.toInt8.toInt32)), (.int (ci4.toInt8.toInt32)), (.int (ci5.toInt8.toInt32))] (.int (0 : Int32))) (O2 : Sta Z Z.heap "java/lang/String" "COMPACT_STRINGS" "Z" (.int G1)) (P5 : ¬ (G1 = (0 : Int32))) :
    own_CN l Z y4 jdk_42_method_154_code 1 (some .boolean) [] R10_61 #[(.ref ra0)] h0 (Q10_61 Z ra0 ra1 kc2 ci3 ci4 ci5 G1 h0 n0) := by
  refine own_entryN (plainFor_of_name pn_1) fun p e s m below meth c s₁ hx hby hml hown hnm hret hlk hZ hh X0 e0 => ?_
  have N0 := Fr.nil n0
  rw [ef_10_61 m ra0]
  obtain ⟨T1, X1, e1, st1⟩ := getS2 X0 hx hZ hown (host := "") (Or.inl (own_w hw 46)) Via.refl e0 (O2.ext OLD.2) (g := (mkF m 0 #[vR ra0] [])) rfl (hb hby d10_0)
  refine og T1 (mkF m 3 #[vR ra0] [(.int G1)]) st1 ?_
  refine og T1 (mkF m 7 #[vR ra0] [(.ref ra0)]) (fun _ k => XS.ifNo X1.here hx rfl (hb hby d10_3) rfl ((if0 _ _).trans (feq P5).1) (XS.aloadN X1.here hx rfl (hb hby d10_6) rfl rfl k)) ?_
  obtain ⟨T2, X2, e2, st2⟩ := getF X1 hx hZ hown (host := "") (Or.inl (own_w hw 26)) Via.refl e1 F_coder_ra0 (g := (mkF m 7 #[vR ra0] [(.ref ra0)])) rfl rfl (hb hby d10_7)
  refine og T2 (mkF m 10 #[vR ra0] [(.int (0 : Int32))]) st2 ?_
  refine og T2 (mkF m 18 #[vR ra0] [(.int (1 : Int32))]) (fun _ k => XS.ifNo X2.here hx rfl (hb hby d10_10) rfl ((if0 _ _).trans (teq (by decide : (0 : Int32) = (0 : Int32))).2) (XS.iconst X2.here hx rfl (hb hby d10_13) (XS.goto X2.here hx rfl (pc0 := 14) (pc' := 18) rfl (hb hby d10_14) (by decide) (by decide) k))) ?_
  exact own_leaveN X2 hlk (v := some (.int (nar .boolean (1 : Int32)))) (fun h => by rw [hret] at h; cases h) (lb rfl) (lb rfl) (by rw [e2]; exact ⟨rfl, N0, rfl⟩) (fun fs hr => retN X2 hx (t := .boolean) hret (by simp) (hb hby d10_18) hr)
abbrev R13_63 : Room := { frames := 0, cells := 0, slots := 0, locals := 0 }
def Q13_63 (Z : State)  (h0 : Heap) (n0 : Nat) (v : Option Value) (h : Heap) (L : List Loc) : Prop := (v = some (.int (2 : Int32)) ∧ Fr n0 L ∧ h = h0)
theorem rm13_63 (l : Launch) (Z : State) (a0 : Array Value) (hw : HW Z a0)  (h0 : Heap) (n0 : Nat) (OLD : Old Z n0 h0) :
    own_CN l Z y6 jdk_29_method_69_code 2 (some .int) [] R13_63 #[(.int (2 : Int32)), (.int (2 : Int32))] h0 (Q13_63 Z  h0 n0) := by
  refine own_entryN (Jvm.Free.JP.mathPlain rfl (by decide +kernel)) fun p e s m below meth c s₁ hx hby hml hown hnm hret hlk hZ hh X0 e0 => ?_
  have N0 := Fr.nil n0
  rw [ef_13_63 m ]
  refine og s₁ (mkF m 10 #[vI (2 : Int32), vI (2 : Int32)] [(.int (2 : Int32))]) (fun _ k => XS.iloadN X0.here hx rfl (hb hby d13_0) rfl (XS.iloadN X0.here hx rfl (hb hby d13_1) rfl (XS.icmpNo X0.here hx rfl (hb hby d13_2) rfl (flt (by decide : ¬ ((2 : Int32) < (2 : Int32)))).2.2.1 (XS.iloadN X0.here hx rfl (hb hby d13_5) rfl (XS.goto X0.here hx rfl (pc0 := 6) (pc' := 10) rfl (hb hby d13_6) (by decide) (by decide) k))))) ?_
  exact own_leaveN X0 hlk (v := some (.int (2 : Int32))) (fun h => by rw [hret] at h; cases h) (lb rfl) (lb rfl) (by rw [e0]; exact ⟨rfl, N0, rfl⟩) (fun fs hr => retI X0 hx hret (hb hby d13_10) hr)
abbrev R11_62 : Room := { frames := 1, cells := 0, slots := 0, locals := 13 }
def Q11_62 (Z : State) (ra0 : Addr) (kc1 : ClassId) (ci2 : Int32) (ci3 : Int32) (ci4 : Int32) (h0 : Heap) (n0 : Nat) (v : Option Value) (h : Heap) (L : List Loc) : Prop := ((ci4.toInt8.toInt32) = (46 : Int32) ∧ v = some (.int (2 : Int32)) ∧ Fr n0 L ∧ h = h0) ∨ ((¬ ((ci4.toInt8.toInt32) = (46 : Int32))) ∧ (ci3.toInt8.toInt32) = (46 : Int32) ∧ v = some (.int (1 : Int32)) ∧ Fr n0 L ∧ h = h0) ∨ ((¬ ((ci4.toInt8.toInt32) = (46 : Int32))) ∧ (¬ ((ci3.toInt8.toInt32) = (46 : Int32))) ∧ (ci2.toInt8.toInt32) = (46 : Int32) ∧ v = some (.int (0 : Int32)) ∧ Fr n0 L ∧ h = h0) ∨ ((¬ ((ci4.toInt8.toInt32) = (46 : Int32))) ∧ (¬ ((ci3.toInt8.toInt32) = (46 : Int32))) ∧ (¬ ((ci2.toInt8.toInt32) = (46 : Int32))) ∧ v = some (.int (-1 : Int32)) ∧ Fr n0 L ∧ h = h0)
theorem rm11_62 (l : Launch) (Z : State) (a0 : Array Value) (hw : HW Z a0) (ra0 : Addr) (kc1 : ClassId) (ci2 : Int32) (ci3 : Int32) (ci4 : Int32) (h0 : Heap) (n0 : Nat) (OLD : Old Z n0 h0) (hl_ci2 : ¬ ci2 < 0 ∧ ¬ (255 : Int32) < ci2) (hl_ci3 : ¬ ci3 < 0 ∧ ¬ (255 : Int32) < ci3) (hl_ci4 : ¬ ci4 < 0 ∧ ¬ (255 : Int32) < ci4) (V_ra0 : Arv Z h0 ra0 kc1 .byte (3 : Int32) [(.int (ci2.toInt8.toInt32)), (.int (ci3.toInt8.toInt32)), (.int (ci4.toInt8.toInt32))] (.int (0 : Int32))) :
    own_CN l Z y7 jdk_43_method_27_code 4 (some .int) [] R11_62 #[(.ref ra0), (.int (46 : Int32)), (.int (2 : Int32))] h0 (Q11_62 Z ra0 kc1 ci2 ci3 ci4 h0 n0) := by
  refine own_entryN (plainFor_of_name pn_2) fun p e s m below meth c s₁ hx hby hml hown hnm hret hlk hZ hh X0 e0 => ?_
  have N0 := Fr.nil n0
  rw [ef_11_62 m ra0]
  refine og s₁ (mkF m 1 #[vR ra0, vI (46 : Int32), vI (2 : Int32), vU] [(.int (46 : Int32))]) (fun _ k => XS.iloadN X0.here hx rfl (hb hby d11_0) rfl k) ?_
  obtain ⟨_, _, ⟨T1, L1, k1, n1⟩, -, X1, ⟨Lc1, hQ1, l1, y1, z1⟩, st1⟩ := Jvm.LawKit.callS X0 hx (y := y5) hown (mvT hZ (own_w hw 61)) (mvT hZ (own_w hw 62)) (mvT hZ (own_w hw 59)) (mvT hZ (own_w hw 63)) (by decide) (backOf (W := 0) (rm12_12 l Z a0 hw  h0 n0 OLD ) hZ (own_w hw 63) (own_w hw 59) (lb rfl) (lb rfl)) (g := (mkF m 1 #[vR ra0, vI (46 : Int32), vI (2 : Int32), vU] [(.int (46 : Int32))])) rfl (by rw [hml]; rfl) (argsL := [(.int (46 : Int32))]) (rest := []) (lenOf pd_5 rfl) rfl (lb rfl) (hb hby d11_1) (fun _ _ => ⟨rfl, e0, (lb rfl), (lb rfl)⟩)
  dsimp only [Pt.U, Pt.locs, Pt.cells, Pt.slots] at X1 l1 y1 z1 st1 hQ1
  subst l1 y1 z1
  obtain ⟨rfl, Nq1, eq1⟩ := hQ1
  have N1 := Fr.app N0 Nq1
  refine og T1 (mkF m 4 #[vR ra0, vI (46 : Int32), vI (2 : Int32), vU] [(.int (1 : Int32))]) st1 ?_
  refine og T1 (mkF m 11 #[vR ra0, vI (46 : Int32), vI (2 : Int32), vU] [(.ref ra0), (.int (2 : Int32))]) (fun _ k => XS.ifYes X1.here hx rfl (pc0 := 4) (pc' := 9) rfl (hb hby d11_4) rfl ((if0 _ _).trans (feq (by decide : ¬ ((1 : Int32) = (0 : Int32)))).2) (by decide) (by decide) (XS.iloadN X1.here hx rfl (hb hby d11_9) rfl (XS.aloadN X1.here hx rfl (hb hby d11_10) rfl rfl k))) ?_
  obtain ⟨cl2, Ar2, -, Sr2, Nr2, -, -⟩ := id V_ra0
  refine og T1 (mkF m 12 #[vR ra0, vI (46 : Int32), vI (2 : Int32), vU] [(.int (3 : Int32)), (.int (2 : Int32))]) (fun t k => X1.arraylength hx (by rw [eq1]; exact Ar2.1) (State.isArrayOf_alike hZ.alike Ar2.2.1) (g := (mkF m 11 #[vR ra0, vI (46 : Int32), vI (2 : Int32), vU] [(.ref ra0), (.int (2 : Int32))])) rfl rfl (hb hby d11_11) t (by rw [len_of Sr2 Nr2]; exact k)) ?_
  refine og T1 (mkF m 14 #[vR ra0, vI (46 : Int32), vI (2 : Int32), vU] [(.int (2 : Int32)), (.int (2 : Int32))]) (fun _ k => XS.iconst X1.here hx rfl (hb hby d11_12) (XS.isub X1.here hx rfl (hb hby d11_13) rfl k)) ?_
  obtain ⟨_, _, ⟨T3, L3, k3, n3⟩, -, X3, ⟨Lc3, hQ3, l3, y3, z3⟩, st3⟩ := Jvm.LawKit.callS X1 hx (y := y6) hown (mvT hZ (own_w hw 64)) (mvT hZ (own_w hw 65)) (mvT hZ (own_w hw 66)) (mvT hZ (own_w hw 67)) (by decide) (backOf (W := 0) (rm13_63 l Z a0 hw  h0 n0 OLD ) hZ (own_w hw 67) (own_w hw 66) (lb rfl) (lb rfl)) (g := (mkF m 14 #[vR ra0, vI (46 : Int32), vI (2 : Int32), vU] [(.int (2 : Int32)), (.int (2 : Int32))])) rfl (by rw [hml]; rfl) (argsL := [(.int (2 : Int32)), (.int (2 : Int32))]) (rest := []) (lenOf pd_6 rfl) rfl (lb rfl) (hb hby d11_14) (fun _ _ => ⟨rfl, eq1, (lb rfl), (lb rfl)⟩)
  dsimp only [Pt.U, Pt.locs, Pt.cells, Pt.slots] at X3 l3 y3 z3 st3 hQ3
  subst l3 y3 z3
  obtain ⟨rfl, Nq3, eq3⟩ := hQ3
  have N3 := Fr.app N1 Nq3
  refine og T3 (mkF m 17 #[vR ra0, vI (46 : Int32), vI (2 : Int32), vU] [(.int (2 : Int32))]) st3 ?_
  refine og T3 (mkF m 24 #[vR ra0, vI (46 : Int32), vI (2 : Int32), vI (2 : Int32)] [(.int (2 : Int32)), (.ref ra0)]) (fun _ k => XS.istoreN X3.here hx rfl (hb hby d11_17) rfl (l' := #[vR ra0, vI (46 : Int32), vI (2 : Int32), vI (2 : Int32)]) rfl (XS.iloadN X3.here hx rfl (hb hby d11_18) rfl (XS.ifNo X3.here hx rfl (hb hby d11_19) rfl ((if0 _ _).trans (flt (by decide : ¬ ((2 : Int32) < (0 : Int32)))).1) (XS.aloadN X3.here hx rfl (hb hby d11_22) rfl rfl (XS.iloadN X3.here hx rfl (hb hby d11_23) rfl k))))) ?_
  obtain ⟨cl4, Ar4, qr4, Sr4, Nr4, Hr4, Gr4⟩ := id V_ra0
  have hi4 : ¬ ((2 : Int32) < 0 ∨ cl4.slots.size ≤ ((2 : Int32)).toNatClampNeg) := inb_of Sr4 ⟨by decide, by decide⟩
  refine og T3 (mkF m 25 #[vR ra0, vI (46 : Int32), vI (2 : Int32), vI (2 : Int32)] [(.int (ci4.toInt8.toInt32))]) (fun t k => X3.baloadBytes hx (j := (2 : Int32)) (v := (.int (ci4.toInt8.toInt32))) (by rw [eq3]; exact Ar4.1) (State.isArrayOf_alike hZ.alike Ar4.2.1) Ar4.2.2 hi4 (Has.at Hr4 hi4 rfl) (g := (mkF m 24 #[vR ra0, vI (46 : Int32), vI (2 : Int32), vI (2 : Int32)] [(.int (2 : Int32)), (.ref ra0)])) rfl rfl (hb hby d11_24) t k) ?_
  refine og T3 (mkF m 27 #[vR ra0, vI (46 : Int32), vI (2 : Int32), vI (2 : Int32)] [(.int (46 : Int32)), (.int (ci4.toInt8.toInt32))]) (fun _ k => XS.iloadN X3.here hx rfl (hb hby d11_25) rfl (XS.i2b X3.here hx rfl (hb hby d11_26) rfl k)) ?_
  by_cases hc5 : (ci4.toInt8.toInt32) = (46 : Int32)
  · refine og T3 (mkF m 31 #[vR ra0, vI (46 : Int32), vI (2 : Int32), vI (2 : Int32)] [(.int (2 : Int32))]) (fun _ k => XS.icmpNo X3.here hx rfl (hb hby d11_27) rfl (teq hc5).2 (XS.iloadN X3.here hx rfl (hb hby d11_30) rfl k)) ?_
    exact own_leaveN X3 hlk (v := some (.int (2 : Int32))) (fun h => by rw [hret] at h; cases h) (lb rfl) (lb rfl) (by rw [eq3]; exact (Or.inl ⟨hc5, rfl, N3, rfl⟩)) (fun fs hr => retI X3 hx hret (hb hby d11_31) hr)
  · refine og T3 (mkF m 24 #[vR ra0, vI (46 : Int32), vI (2 : Int32), vI (1 : Int32)] [(.int (1 : Int32)), (.ref ra0)]) (fun _ k => XS.icmpYes X3.here hx rfl (pc0 := 27) (pc' := 32) rfl (hb hby d11_27) rfl (feq hc5).2 (by decide) (by decide) (XS.iinc X3.here hx rfl (hb hby d11_32) rfl (l' := #[vR ra0, vI (46 : Int32), vI (2 : Int32), vI (1 : Int32)]) rfl (XS.goto X3.here hx rfl (pc0 := 35) (pc' := 18) rfl (hb hby d11_35) (by decide) (by decide) (XS.iloadN X3.here hx rfl (hb hby d11_18) rfl (XS.ifNo X3.here hx rfl (hb hby d11_19) rfl ((if0 _ _).trans (flt (by decide : ¬ ((1 : Int32) < (0 : Int32)))).1) (XS.aloadN X3.here hx rfl (hb hby d11_22) rfl rfl (XS.iloadN X3.here hx rfl (hb hby d11_23) rfl k))))))) ?_
    obtain ⟨cl6, Ar6, qr6, Sr6, Nr6, Hr6, Gr6⟩ := id V_ra0
    have hi6 : ¬ ((1 : Int32) < 0 ∨ cl6.slots.size ≤ ((1 : Int32)).toNatClampNeg) := inb_of Sr6 ⟨by decide, by decide⟩
    refine og T3 (mkF m 25 #[vR ra0, vI (46 : Int32), vI (2 : Int32), vI (1 : Int32)] [(.int (ci3.toInt8.toInt32))]) (fun t k => X3.baloadBytes hx (j := (1 : Int32)) (v := (.int (ci3.toInt8.toInt32))) (by rw [eq3]; exact Ar6.1) (State.isArrayOf_alike hZ.alike Ar6.2.1) Ar6.2.2 hi6 (Has.at Hr6 hi6 rfl) (g := (mkF m 24 #[vR ra0, vI (46 : Int32), vI (2 : Int32), vI (1 : Int32)] [(.int (1 : Int32)), (.ref ra0)])) rfl rfl (hb hby d11_24) t k) ?_
    refine og T3 (mkF m 27 #[vR ra0, vI (46 : Int32), vI (2 : Int32), vI (1 : Int32)] [(.int (46 : Int32)), (.int (ci3.toInt8.toInt32))]) (fun _ k => XS.iloadN X3.here hx rfl (hb hby d11_25) rfl (XS.i2b X3.here hx rfl (hb hby d11_26) rfl k)) ?_
    by_cases hc7 : (ci3.toInt8.toInt32) = (46 : Int32)
    · refine og T3 (mkF m 31 #[vR ra0, vI (46 : Int32), vI (2 : Int32), vI (1 : Int32)] [(.int (1 : Int32))]) (fun _ k => XS.icmpNo X3.here hx rfl (hb hby d11_27) rfl (teq hc7).2 (XS.iloadN X3.here hx rfl (hb hby d11_30) rfl k)) ?_
      exact own_leaveN X3 hlk (v := some (.int (1 : Int32))) (fun h => by rw [hret] at h; cases h) (lb rfl) (lb rfl) (by rw [eq3]; exact (Or.inr (Or.inl ⟨hc5, hc7, rfl, N3, rfl⟩))) (fun fs hr => retI X3 hx hret (hb hby d11_31) hr)
    · refine og T3 (mkF m 24 #[vR ra0, vI (46 : Int32), vI (2 : Int32), vI (0 : Int32)] [(.int (0 : Int32)), (.ref ra0)]) (fun _ k => XS.icmpYes X3.here hx rfl (pc0 := 27) (pc' := 32) rfl (hb hby d11_27) rfl (feq hc7).2 (by decide) (by decide) (XS.iinc X3.here hx rfl (hb hby d11_32) rfl (l' := #[vR ra0, vI (46 : Int32), vI (2 : Int32), vI (0 : Int32)]) rfl (XS.goto X3.here hx rfl (pc0 := 35) (pc' := 18) rfl (hb hby d11_35) (by decide) (by decide) (XS.iloadN X3.here hx rfl (hb hby d11_18) rfl (XS.ifNo X3.here hx rfl (hb hby d11_19) rfl ((if0 _ _).trans (flt (by decide : ¬ ((0 : Int32) < (0 : Int32)))).1) (XS.aloadN X3.here hx rfl (hb hby d11_22) rfl rfl (XS.iloadN X3.here hx rfl (hb hby d11_23) rfl k))))))) ?_
      obtain ⟨cl8, Ar8, qr8, Sr8, Nr8, Hr8, Gr8⟩ := id V_ra0
      have hi8 : ¬ ((0 : Int32) < 0 ∨ cl8.slots.size ≤ ((0 : Int32)).toNatClampNeg) := inb_of Sr8 ⟨by decide, by decide⟩
      refine og T3 (mkF m 25 #[vR ra0, vI (46 : Int32), vI (2 : Int32), vI (0 : Int32)] [(.int (ci2.toInt8.toInt32))]) (fun t k => X3.baloadBytes hx (j := (0 : Int32)) (v := (.int (ci2.toInt8.toInt32))) (by rw [eq3]; exact Ar8.1) (State.isArrayOf_alike hZ.alike Ar8.2.1) Ar8.2.2 hi8 (Has.at Hr8 hi8 rfl) (g := (mkF m 24 #[vR ra0, vI (46 : Int32), vI (2 : Int32), vI (0 : Int32)] [(.int (0 : Int32)), (.ref ra0)])) rfl rfl (hb hby d11_24) t k) ?_
      refine og T3 (mkF m 27 #[vR ra0, vI (46 : Int32), vI (2 : Int32), vI (0 : Int32)] [(.int (46 : Int32)), (.int (ci2.toInt8.toInt32))]) (fun _ k => XS.iloadN X3.here hx rfl (hb hby d11_25) rfl (XS.i2b X3.here hx rfl (hb hby d11_26) rfl k)) ?_
      by_cases hc9 : (ci2.toInt8.toInt32) = (46 : Int32)
      · refine og T3 (mkF m 31 #[vR ra0, vI (46 : Int32), vI (2 : Int32), vI (0 : Int32)] [(.int (0 : Int32))]) (fun _ k => XS.icmpNo X3.here hx rfl (hb hby d11_27) rfl (teq hc9).2 (XS.iloadN X3.here hx rfl (hb hby d11_30) rfl k)) ?_
        exact own_leaveN X3 hlk (v := some (.int (0 : Int32))) (fun h => by rw [hret] at h; cases h) (lb rfl) (lb rfl) (by rw [eq3]; exact (Or.inr (Or.inr (Or.inl ⟨hc5, hc7, hc9, rfl, N3, rfl⟩)))) (fun fs hr => retI X3 hx hret (hb hby d11_31) hr)
      · refine og T3 (mkF m 39 #[vR ra0, vI (46 : Int32), vI (2 : Int32), vI (-1 : Int32)] [(.int (-1 : Int32))]) (fun _ k => XS.icmpYes X3.here hx rfl (pc0 := 27) (pc' := 32) rfl (hb hby d11_27) rfl (feq hc9).2 (by decide) (by decide) (XS.iinc X3.here hx rfl (hb hby d11_32) rfl (l' := #[vR ra0, vI (46 : Int32), vI (2 : Int32), vI (-1 : Int32)]) rfl (XS.goto X3.here hx rfl (pc0 := 35) (pc' := 18) rfl (hb hby d11_35) (by decide) (by decide) (XS.iloadN X3.here hx rfl (hb hby d11_18) rfl (XS.ifYes X3.here hx rfl (pc0 := 19) (pc' := 38) rfl (hb hby d11_19) rfl ((if0 _ _).trans (tlt (by decide : (-1 : Int32) < (0 : Int32))).1) (by decide) (by decide) (XS.iconst X3.here hx rfl (hb hby d11_38) k)))))) ?_
        exact own_leaveN X3 hlk (v := some (.int (-1 : Int32))) (fun h => by rw [hret] at h; cases h) (lb rfl) (lb rfl) (by rw [eq3]; exact (Or.inr (Or.inr (Or.inr ⟨hc5, hc7, hc9, rfl, N3, rfl⟩)))) (fun fs hr => retI X3 hx hret (hb hby d11_39) hr)
abbrev R9_60 : Room := { frames := 2, cells := 0, slots := 0, locals := 28 }
def Q9_60 (Z : State) (ra0 : Addr) (ra1 : Addr) (kc2 : ClassId) (ci3 : Int32) (ci4 : Int32) (ci5 : Int32) (G1 : Int32) (h0 : Heap) (n0 : Nat) (v : Option Value) (h : Heap) (L : List Loc) : Prop := ((ci5.toInt8.toInt32) = (46 : Int32) ∧ v = some (.int (2 : Int32)) ∧ Fr n0 L ∧ h = h0) ∨ ((¬ ((ci5.toInt8.toInt32) = (46 : Int32))) ∧ (ci4.toInt8.toInt32) = (46 : Int32) ∧ v = some (.int (1 : Int32)) ∧ Fr n0 L ∧ h = h0) ∨ ((¬ ((ci5.toInt8.toInt32) = (46 : Int32))) ∧ (¬ ((ci4.toInt8.toInt32) = (46 : Int32))) ∧ (ci3.toInt8.toInt32) = (46 : Int32) ∧ v = some (.int (0 : Int32)) ∧ Fr n0 L ∧ h = h0) ∨ ((¬ ((ci5.toInt8.toInt32) = (46 : Int32))) ∧ (¬ ((ci4.toInt8.toInt32) = (46 : Int32))) ∧ (¬ ((ci3.toInt8.toInt32) = (46 : Int32))) ∧ v = some (.int (-1 : Int32)) ∧ Fr n0 L ∧ h = h0)
theorem rm9_60 (l : Launch) (Z : State) (a0 : Array Value) (hw : HW Z a0) (ra0 : Addr) (ra1 : Addr) (kc2 : ClassId) (ci3 : Int32) (ci4 : Int32) (ci5 : Int32) (G1 : Int32) (h0 : Heap) (n0 : Nat) (OLD : Old Z n0 h0) (E_ra0 : Exa Z h0 ra0 "java/lang/String") (F_coder_ra0 : Fld Z h0 ra0 "java/lang/String" "coder" "B" (.int (0 : Int32))) (F_value_ra0 : Fld Z h0 ra0 "java/lang/String" "value" "[B" (.ref ra1)) (hl_ci3 : ¬ ci3 < 0 ∧ ¬ (255 : Int32) < ci3) (hl_ci4 : ¬ ci4 < 0 ∧ ¬ (255 : Int32) < ci4) (hl_ci5 : ¬ ci5 < 0 ∧ ¬ (255 : Int32) < ci5) (V_ra1 : Arv Z h0 ra1 kc2 .byte (3 : Int32) [(.int (ci3.toInt8.toInt32)), (.int (ci4.toInt8.toInt32)), (.int (ci5.toInt8.toInt32))] (.int (0 : Int32))) (O2 : Sta Z Z.heap "java/lang/String" "COMPACT_STRINGS" "Z" (.int G1)) (P5 : ¬ (G1 = (0 : Int32))) :
    own_CN l Z y8 jdk_42_method_83_code 3 (some .int) [] R9_60 #[(.ref ra0), (.int (46 : Int32)), (.int (2 : Int32))] h0 (Q9_60 Z ra0 ra1 kc2 ci3 ci4 ci5 G1 h0 n0) := by
  refine own_entryN (plainFor_of_name pn_1) fun p e s m below meth c s₁ hx hby hml hown hnm hret hlk hZ hh X0 e0 => ?_
  have N0 := Fr.nil n0
  rw [ef_9_60 m ra0]
  refine og s₁ (mkF m 1 #[vR ra0, vI (46 : Int32), vI (2 : Int32)] [(.ref ra0)]) (fun _ k => XS.aloadN X0.here hx rfl (hb hby d9_0) rfl rfl k) ?_
  obtain ⟨cq1, kq1, q1a, q1b, q1c⟩ := isOf hZ e0 E_ra0
  obtain ⟨_, _, ⟨T1, L1, k1, n1⟩, -, X1, ⟨Lc1, hQ1, l1, y1, z1⟩, st1⟩ := X0.virtualBack hx (y := y4) (z := y4) hown (mvT hZ (own_w hw 52)) (mvT hZ (own_w hw 53)) (notFace_of_selects (args := #[]) (mvT hZ (own_w hw 55))) (mvT hZ (own_w hw 55)) (mvT hZ (own_w hw 54)) (by decide) (backOf (W := 0) (rm10_61 l Z a0 hw ra0 ra1 kc2 ci3 ci4 ci5 G1 h0 n0 OLD E_ra0 F_coder_ra0 F_value_ra0 hl_ci3 hl_ci4 hl_ci5 V_ra1 O2 P5) hZ (own_w hw 56) (own_w hw 8) (lb rfl) (lb rfl)) q1a q1c (g := (mkF m 1 #[vR ra0, vI (46 : Int32), vI (2 : Int32)] [(.ref ra0)])) rfl (by rw [hml]; rfl) (Steps.refl _) (argsL := []) (rest := []) (lenOf pd_4 rfl) rfl (lb rfl) (hb hby d9_1) (fun _ _ => ⟨rfl, e0, (lb rfl), (lb rfl)⟩)
  dsimp only [Pt.U, Pt.locs, Pt.cells, Pt.slots] at X1 l1 y1 z1 st1 hQ1
  subst l1 y1 z1
  obtain ⟨rfl, Nq1, eq1⟩ := hQ1
  have N1 := Fr.app N0 Nq1
  refine ot T1 (mkF m 4 #[vR ra0, vI (46 : Int32), vI (2 : Int32)] [(.int (1 : Int32))]) st1 ?_
  refine og T1 (mkF m 8 #[vR ra0, vI (46 : Int32), vI (2 : Int32)] [(.ref ra0)]) (fun _ k => XS.ifNo X1.here hx rfl (hb hby d9_4) rfl ((if0 _ _).trans (feq (by decide : ¬ ((1 : Int32) = (0 : Int32)))).1) (XS.aloadN X1.here hx rfl (hb hby d9_7) rfl rfl k)) ?_
  obtain ⟨T2, X2, e2, st2⟩ := getF X1 hx hZ hown (host := "") (Or.inl (own_w hw 25)) Via.refl eq1 F_value_ra0 (g := (mkF m 8 #[vR ra0, vI (46 : Int32), vI (2 : Int32)] [(.ref ra0)])) rfl rfl (hb hby d9_8)
  refine og T2 (mkF m 11 #[vR ra0, vI (46 : Int32), vI (2 : Int32)] [(.ref ra1)]) st2 ?_
  refine og T2 (mkF m 13 #[vR ra0, vI (46 : Int32), vI (2 : Int32)] [(.int (2 : Int32)), (.int (46 : Int32)), (.ref ra1)]) (fun _ k => XS.iloadN X2.here hx rfl (hb hby d9_11) rfl (XS.iloadN X2.here hx rfl (hb hby d9_12) rfl k)) ?_
  obtain ⟨_, _, ⟨T3, L3, k3, n3⟩, -, X3, ⟨Lc3, hQ3, l3, y3, z3⟩, st3⟩ := Jvm.LawKit.callS X2 hx (y := y7) hown (mvT hZ (own_w hw 57)) (mvT hZ (own_w hw 58)) (mvT hZ (own_w hw 59)) (mvT hZ (own_w hw 60)) (by decide) (backOf (W := 0) (rm11_62 l Z a0 hw ra1 kc2 ci3 ci4 ci5 h0 n0 OLD hl_ci3 hl_ci4 hl_ci5 V_ra1) hZ (own_w hw 60) (own_w hw 59) (lb rfl) (lb rfl)) (g := (mkF m 13 #[vR ra0, vI (46 : Int32), vI (2 : Int32)] [(.int (2 : Int32)), (.int (46 : Int32)), (.ref ra1)])) rfl (by rw [hml]; rfl) (argsL := [(.ref ra1), (.int (46 : Int32)), (.int (2 : Int32))]) (rest := []) (lenOf pd_7 rfl) rfl (lb rfl) (hb hby d9_13) (fun _ _ => ⟨rfl, e2, (lb rfl), (lb rfl)⟩)
  dsimp only [Pt.U, Pt.locs, Pt.cells, Pt.slots] at X3 l3 y3 z3 st3 hQ3
  subst l3 y3 z3
  rcases hQ3 with hQ3 | hQ3 | hQ3 | hQ3
  · obtain ⟨hc4, rfl, Nq3, eq3⟩ := hQ3
    have N3 := Fr.app N1 Nq3
    refine og T3 (mkF m 16 #[vR ra0, vI (46 : Int32), vI (2 : Int32)] [(.int (2 : Int32))]) st3 ?_
    refine og T3 (mkF m 28 #[vR ra0, vI (46 : Int32), vI (2 : Int32)] [(.int (2 : Int32))]) (fun _ k => XS.goto X3.here hx rfl (pc0 := 16) (pc' := 28) rfl (hb hby d9_16) (by decide) (by decide) k) ?_
    exact own_leaveN X3 hlk (v := some (.int (2 : Int32))) (fun h => by rw [hret] at h; cases h) (lb rfl) (lb rfl) (by rw [eq3]; exact (Or.inl ⟨hc4, rfl, N3, rfl⟩)) (fun fs hr => retI X3 hx hret (hb hby d9_28) hr)
  · obtain ⟨hc5, hc6, rfl, Nq3, eq3⟩ := hQ3
    have N3 := Fr.app N1 Nq3
    refine og T3 (mkF m 16 #[vR ra0, vI (46 : Int32), vI (2 : Int32)] [(.int (1 : Int32))]) st3 ?_
    refine og T3 (mkF m 28 #[vR ra0, vI (46 : Int32), vI (2 : Int32)] [(.int (1 : Int32))]) (fun _ k => XS.goto X3.here hx rfl (pc0 := 16) (pc' := 28) rfl (hb hby d9_16) (by decide) (by decide) k) ?_
    exact own_leaveN X3 hlk (v := some (.int (1 : Int32))) (fun h => by rw [hret] at h; cases h) (lb rfl) (lb rfl) (by rw [eq3]; exact (Or.inr (Or.inl ⟨hc5, hc6, rfl, N3, rfl⟩))) (fun fs hr => retI X3 hx hret (hb hby d9_28) hr)
  · obtain ⟨hc7, hc8, hc9, rfl, Nq3, eq3⟩ := hQ3
    have N3 := Fr.app N1 Nq3
    refine og T3 (mkF m 16 #[vR ra0, vI (46 : Int32), vI (2 : Int32)] [(.int (0 : Int32))]) st3 ?_
    refine og T3 (mkF m 28 #[vR ra0, vI (46 : Int32), vI (2 : Int32)] [(.int (0 : Int32))]) (fun _ k => XS.goto X3.here hx rfl (pc0 := 16) (pc' := 28) rfl (hb hby d9_16) (by decide) (by decide) k) ?_
    exact own_leaveN X3 hlk (v := some (.int (0 : Int32))) (fun h => by rw [hret] at h; cases h) (lb rfl) (lb rfl) (by rw [eq3]; exact (Or.inr (Or.inr (Or.inl ⟨hc7, hc8, hc9, rfl, N3, rfl⟩)))) (fun fs hr => retI X3 hx hret (hb hby d9_28) hr)
  · obtain ⟨hc10, hc11, hc12, rfl, Nq3, eq3⟩ := hQ3
    have N3 := Fr.app N1 Nq3
    refine og T3 (mkF m 16 #[vR ra0, vI (46 : Int32), vI (2 : Int32)] [(.int (-1 : Int32))]) st3 ?_
    refine og T3 (mkF m 28 #[vR ra0, vI (46 : Int32), vI (2 : Int32)] [(.int (-1 : Int32))]) (fun _ k => XS.goto X3.here hx rfl (pc0 := 16) (pc' := 28) rfl (hb hby d9_16) (by decide) (by decide) k) ?_
    exact own_leaveN X3 hlk (v := some (.int (-1 : Int32))) (fun h => by rw [hret] at h; cases h) (lb rfl) (lb rfl) (by rw [eq3]; exact (Or.inr (Or.inr (Or.inr ⟨hc10, hc11, hc12, rfl, N3, rfl⟩)))) (fun fs hr => retI X3 hx hret (hb hby d9_28) hr)
abbrev R6_59 : Room := { frames := 3, cells := 0, slots := 0, locals := 42 }
def Q6_59 (Z : State) (ra0 : Addr) (ra1 : Addr) (kc2 : ClassId) (ci3 : Int32) (ci4 : Int32) (ci5 : Int32) (G1 : Int32) (h0 : Heap) (n0 : Nat) (v : Option Value) (h : Heap) (L : List Loc) : Prop := ((ci5.toInt8.toInt32) = (46 : Int32) ∧ v = some (.int (2 : Int32)) ∧ Fr n0 L ∧ h = h0) ∨ ((¬ ((ci5.toInt8.toInt32) = (46 : Int32))) ∧ (ci4.toInt8.toInt32) = (46 : Int32) ∧ v = some (.int (1 : Int32)) ∧ Fr n0 L ∧ h = h0) ∨ ((¬ ((ci5.toInt8.toInt32) = (46 : Int32))) ∧ (¬ ((ci4.toInt8.toInt32) = (46 : Int32))) ∧ (ci3.toInt8.toInt32) = (46 : Int32) ∧ v = some (.int (0 : Int32)) ∧ Fr n0 L ∧ h = h0) ∨ ((¬ ((ci5.toInt8.toInt32) = (46 : Int32))) ∧ (¬ ((ci4.toInt8.toInt32) = (46 : Int32))) ∧ (¬ ((ci3.toInt8.toInt32) = (46 : Int32))) ∧ v = some (.int (-1 : Int32)) ∧ Fr n0 L ∧ h = h0)
theorem rm6_59 (l : Launch) (Z : State) (a0 : Array Value) (hw : HW Z a0) (ra0 : Addr) (ra1 : Addr) (kc2 : ClassId) (ci3 : Int32) (ci4 : Int32) (ci5 : Int32) (G1 : Int32) (h0 : Heap) (n0 : Nat) (OLD : Old Z n0 h0) (E_ra0 : Exa Z h0 ra0 "java/lang/String") (F_coder_ra0 : Fld Z h0 ra0 "java/lang/String" "coder" "B" (.int (0 : Int32))) (F_value_ra0 : Fld Z h0 ra0 "java/lang/String" "value" "[B" (.ref ra1)) (hl_ci3 : ¬ ci3 < 0 ∧ ¬ (255 : Int32) < ci3) (hl_ci4 : ¬ ci4 < 0 ∧ ¬ (255 : Int32) < ci4) (hl_ci5 : ¬ ci5 < 0 ∧ ¬ (255 : Int32) < ci5) (V_ra1 : Arv Z h0 ra1 kc2 .byte (3 : Int32) [(.int (ci3.toInt8.toInt32)), (.int (ci4.toInt8.toInt32)), (.int (ci5.toInt8.toInt32))] (.int (0 : Int32))) (O2 : Sta Z Z.heap "java/lang/String" "COMPACT_STRINGS" "Z" (.int G1)) (P5 : ¬ (G1 = (0 : Int32))) :
    own_CN l Z y9 jdk_42_method_82_code 2 (some .int) [] R6_59 #[(.ref ra0), (.int (46 : Int32))] h0 (Q6_59 Z ra0 ra1 kc2 ci3 ci4 ci5 G1 h0 n0) := by
  refine own_entryN (plainFor_of_name pn_1) fun p e s m below meth c s₁ hx hby hml hown hnm hret hlk hZ hh X0 e0 => ?_
  have N0 := Fr.nil n0
  rw [ef_6_59 m ra0]
  refine og s₁ (mkF m 3 #[vR ra0, vI (46 : Int32)] [(.ref ra0), (.int (46 : Int32)), (.ref ra0)]) (fun _ k => XS.aloadN X0.here hx rfl (hb hby d6_0) rfl rfl (XS.iloadN X0.here hx rfl (hb hby d6_1) rfl (XS.aloadN X0.here hx rfl (hb hby d6_2) rfl rfl k))) ?_
  have hp1 : ∀ c ∈ ([ci3, ci4, ci5] : List Int32), ¬ c < 0 ∧ ¬ (255 : Int32) < c := by
    intro c hc
    simp only [List.mem_cons, List.not_mem_nil, or_false] at hc
    rcases hc with rfl | rfl | rfl
    · exact hl_ci3
    · exact hl_ci4
    · exact hl_ci5
  obtain ⟨cq2, kq2, q2a, q2b, q2c⟩ := isOf hZ e0 E_ra0
  obtain ⟨_, _, ⟨T2, L2, k2, n2⟩, -, X2, ⟨Lc2, hQ2, l2, y2, z2⟩, st2⟩ := X0.virtualBack hx (y := y3) (z := y3) hown (mvT hZ (own_w hw 36)) (mvT hZ (own_w hw 37)) (notFace_of_selects (args := #[]) (mvT hZ (own_w hw 39))) (mvT hZ (own_w hw 39)) (mvT hZ (own_w hw 38)) (by decide) (StrChars.Road.lenW (W := 2) hZ (own_hln hw) (kI := 4) (own_w hw 7) (cs := ([ci3, ci4, ci5] : List Int32)) E_ra0 F_value_ra0 F_coder_ra0 V_ra1 (StrChars.Road.codOf rfl (fun c hc => (hp1 c hc).2)) (own_up _ hp1) (O2.ext OLD.2) P5 (lb rfl) (lb rfl) (lb rfl)) q2a q2c (g := (mkF m 3 #[vR ra0, vI (46 : Int32)] [(.ref ra0), (.int (46 : Int32)), (.ref ra0)])) rfl (by rw [hml]; rfl) (Steps.refl _) (argsL := []) (rest := [(.int (46 : Int32)), (.ref ra0)]) (lenOf pd_3 rfl) rfl (lb rfl) (hb hby d6_3) (fun _ _ => ⟨rfl, e0, (lb rfl), (lb rfl)⟩)
  dsimp only [Pt.U, Pt.locs, Pt.cells, Pt.slots] at X2 l2 y2 z2 st2 hQ2
  subst l2 y2 z2
  obtain ⟨rfl, rfl, eq2⟩ := hQ2
  have N2 := Fr.app N0 (Fr.nil n0)
  refine ot T2 (mkF m 6 #[vR ra0, vI (46 : Int32)] [(.int (3 : Int32)), (.int (46 : Int32)), (.ref ra0)]) st2 ?_
  refine og T2 (mkF m 8 #[vR ra0, vI (46 : Int32)] [(.int (2 : Int32)), (.int (46 : Int32)), (.ref ra0)]) (fun _ k => XS.iconst X2.here hx rfl (hb hby d6_6) (XS.isub X2.here hx rfl (hb hby d6_7) rfl k)) ?_
  obtain ⟨cq3, kq3, q3a, q3b, q3c⟩ := isOf hZ eq2 E_ra0
  obtain ⟨_, _, ⟨T3, L3, k3, n3⟩, -, X3, ⟨Lc3, hQ3, l3, y3, z3⟩, st3⟩ := X2.virtualBack hx (y := y8) (z := y8) hown (mvT hZ (own_w hw 47)) (mvT hZ (own_w hw 48)) (notFace_of_selects (args := #[]) (mvT hZ (own_w hw 50))) (mvT hZ (own_w hw 50)) (mvT hZ (own_w hw 49)) (by decide) (backOf (W := 0) (rm9_60 l Z a0 hw ra0 ra1 kc2 ci3 ci4 ci5 G1 h0 n0 OLD E_ra0 F_coder_ra0 F_value_ra0 hl_ci3 hl_ci4 hl_ci5 V_ra1 O2 P5) hZ (own_w hw 51) (own_w hw 8) (lb rfl) (lb rfl)) q3a q3c (g := (mkF m 8 #[vR ra0, vI (46 : Int32)] [(.int (2 : Int32)), (.int (46 : Int32)), (.ref ra0)])) rfl (by rw [hml]; rfl) (Steps.refl _) (argsL := [(.int (46 : Int32)), (.int (2 : Int32))]) (rest := []) (lenOf pd_6 rfl) rfl (lb rfl) (hb hby d6_8) (fun _ _ => ⟨rfl, eq2, (lb rfl), (lb rfl)⟩)
  dsimp only [Pt.U, Pt.locs, Pt.cells, Pt.slots] at X3 l3 y3 z3 st3 hQ3
  subst l3 y3 z3
  rcases hQ3 with hQ3 | hQ3 | hQ3 | hQ3
  · obtain ⟨hc4, rfl, Nq3, eq3⟩ := hQ3
    have N3 := Fr.app N2 Nq3
    refine ot T3 (mkF m 11 #[vR ra0, vI (46 : Int32)] [(.int (2 : Int32))]) st3 ?_
    exact own_leaveN X3 hlk (v := some (.int (2 : Int32))) (fun h => by rw [hret] at h; cases h) (lb rfl) (lb rfl) (by rw [eq3]; exact (Or.inl ⟨hc4, rfl, N3, rfl⟩)) (fun fs hr => retI X3 hx hret (hb hby d6_11) hr)
  · obtain ⟨hc5, hc6, rfl, Nq3, eq3⟩ := hQ3
    have N3 := Fr.app N2 Nq3
    refine ot T3 (mkF m 11 #[vR ra0, vI (46 : Int32)] [(.int (1 : Int32))]) st3 ?_
    exact own_leaveN X3 hlk (v := some (.int (1 : Int32))) (fun h => by rw [hret] at h; cases h) (lb rfl) (lb rfl) (by rw [eq3]; exact (Or.inr (Or.inl ⟨hc5, hc6, rfl, N3, rfl⟩))) (fun fs hr => retI X3 hx hret (hb hby d6_11) hr)
  · obtain ⟨hc7, hc8, hc9, rfl, Nq3, eq3⟩ := hQ3
    have N3 := Fr.app N2 Nq3
    refine ot T3 (mkF m 11 #[vR ra0, vI (46 : Int32)] [(.int (0 : Int32))]) st3 ?_
    exact own_leaveN X3 hlk (v := some (.int (0 : Int32))) (fun h => by rw [hret] at h; cases h) (lb rfl) (lb rfl) (by rw [eq3]; exact (Or.inr (Or.inr (Or.inl ⟨hc7, hc8, hc9, rfl, N3, rfl⟩)))) (fun fs hr => retI X3 hx hret (hb hby d6_11) hr)
  · obtain ⟨hc10, hc11, hc12, rfl, Nq3, eq3⟩ := hQ3
    have N3 := Fr.app N2 Nq3
    refine ot T3 (mkF m 11 #[vR ra0, vI (46 : Int32)] [(.int (-1 : Int32))]) st3 ?_
    exact own_leaveN X3 hlk (v := some (.int (-1 : Int32))) (fun h => by rw [hret] at h; cases h) (lb rfl) (lb rfl) (by rw [eq3]; exact (Or.inr (Or.inr (Or.inr ⟨hc10, hc11, hc12, rfl, N3, rfl⟩)))) (fun fs hr => retI X3 hx hret (hb hby d6_11) hr)
abbrev R16_66 : Room := { frames := 0, cells := 0, slots := 0, locals := 0 }
def Q16_66 (Z : State) (cv0 : Value) (h0 : Heap) (n0 : Nat) (v : Option Value) (h : Heap) (L : List Loc) : Prop := (v = some (.int (0 : Int32)) ∧ Fr n0 L ∧ h = h0)
theorem rm16_66 (l : Launch) (Z : State) (a0 : Array Value) (hw : HW Z a0) (cv0 : Value) (h0 : Heap) (n0 : Nat) (OLD : Old Z n0 h0) (rf_cv0 : cv0.isRef = true) :
    own_CN l Z y10 jdk_41_method_12_code 4 (some .int) [] R16_66 #[(.int (0 : Int32)), (.int (3 : Int32)), (.int (3 : Int32)), cv0] h0 (Q16_66 Z cv0 h0 n0) := by
  refine own_entryN (plainFor_of_name pn_3) fun p e s m below meth c s₁ hx hby hml hown hnm hret hlk hZ hh X0 e0 => ?_
  have N0 := Fr.nil n0
  rw [ef_16_66 m cv0 rf_cv0]
  refine og s₁ (mkF m 23 #[vI (0 : Int32), vI (3 : Int32), vI (3 : Int32), .val cv0] [(.int (0 : Int32))]) (fun _ k => XS.iloadN X0.here hx rfl (hb hby d16_0) rfl (XS.ifNo X0.here hx rfl (hb hby d16_1) rfl ((if0 _ _).trans (flt (by decide : ¬ ((0 : Int32) < (0 : Int32)))).1) (XS.iloadN X0.here hx rfl (hb hby d16_4) rfl (XS.iloadN X0.here hx rfl (hb hby d16_5) rfl (XS.icmpNo X0.here hx rfl (hb hby d16_6) rfl (flt (by decide : ¬ ((3 : Int32) < (0 : Int32)))).2.2.1 (XS.iloadN X0.here hx rfl (hb hby d16_9) rfl (XS.iloadN X0.here hx rfl (hb hby d16_10) rfl (XS.icmpYes X0.here hx rfl (pc0 := 11) (pc' := 22) rfl (hb hby d16_11) rfl (flt (by decide : ¬ ((3 : Int32) < (3 : Int32)))).2.2.2 (by decide) (by decide) (XS.iloadN X0.here hx rfl (hb hby d16_22) rfl k))))))))) ?_
  exact own_leaveN X0 hlk (v := some (.int (0 : Int32))) (fun h => by rw [hret] at h; cases h) (lb rfl) (lb rfl) (by rw [e0]; exact ⟨rfl, N0, rfl⟩) (fun fs hr => retI X0 hx hret (hb hby d16_23) hr)
abbrev R15_65 : Room := { frames := 1, cells := 0, slots := 0, locals := 15 }
def Q15_65 (Z : State) (G3 : Value) (h0 : Heap) (n0 : Nat) (v : Option Value) (h : Heap) (L : List Loc) : Prop := (v = none ∧ Fr n0 L ∧ h = h0)
theorem rm15_65 (l : Launch) (Z : State) (a0 : Array Value) (hw : HW Z a0) (G3 : Value) (h0 : Heap) (n0 : Nat) (OLD : Old Z n0 h0) (O4 : Sta Z Z.heap "jdk/internal/util/Preconditions" "SIOOBE_FORMATTER" "Ljava/util/function/BiFunction;" G3) (rG3 : G3.isRef = true) :
    own_CN l Z y11 jdk_42_method_158_code 3 none [] R15_65 #[(.int (0 : Int32)), (.int (3 : Int32)), (.int (3 : Int32))] h0 (Q15_65 Z G3 h0 n0) := by
  refine own_entryN (plainFor_of_name pn_1) fun p e s m below meth c s₁ hx hby hml hown hnm hret hlk hZ hh X0 e0 => ?_
  have N0 := Fr.nil n0
  rw [ef_15_65 m ]
  refine og s₁ (mkF m 3 #[vI (0 : Int32), vI (3 : Int32), vI (3 : Int32)] [(.int (3 : Int32)), (.int (3 : Int32)), (.int (0 : Int32))]) (fun _ k => XS.iloadN X0.here hx rfl (hb hby d15_0) rfl (XS.iloadN X0.here hx rfl (hb hby d15_1) rfl (XS.iloadN X0.here hx rfl (hb hby d15_2) rfl k))) ?_
  obtain ⟨T1, X1, e1, st1⟩ := getS2 X0 hx hZ hown (host := "") (Or.inl (own_w hw 76)) Via.refl e0 (O4.ext OLD.2) (g := (mkF m 3 #[vI (0 : Int32), vI (3 : Int32), vI (3 : Int32)] [(.int (3 : Int32)), (.int (3 : Int32)), (.int (0 : Int32))])) rfl (hb hby d15_3)
  refine og T1 (mkF m 6 #[vI (0 : Int32), vI (3 : Int32), vI (3 : Int32)] [G3, (.int (3 : Int32)), (.int (3 : Int32)), (.int (0 : Int32))]) st1 ?_
  obtain ⟨_, _, ⟨T2, L2, k2, n2⟩, -, X2, ⟨Lc2, hQ2, l2, y2, z2⟩, st2⟩ := Jvm.LawKit.callS X1 hx (y := y10) hown (mvT hZ (own_w hw 78)) (mvT hZ (own_w hw 79)) (mvT hZ (own_w hw 77)) (mvT hZ (own_w hw 80)) (by decide) (backOf (W := 0) (rm16_66 l Z a0 hw G3 h0 n0 OLD rG3) hZ (own_w hw 80) (own_w hw 77) (lb rfl) (lb rfl)) (g := (mkF m 6 #[vI (0 : Int32), vI (3 : Int32), vI (3 : Int32)] [G3, (.int (3 : Int32)), (.int (3 : Int32)), (.int (0 : Int32))])) rfl (by rw [hml]; rfl) (argsL := [(.int (0 : Int32)), (.int (3 : Int32)), (.int (3 : Int32)), G3]) (rest := []) (lenOf pd_9 rfl) rfl (lb rfl) (hb hby d15_6) (fun _ _ => ⟨rfl, e1, (lb rfl), (lb rfl)⟩)
  dsimp only [Pt.U, Pt.locs, Pt.cells, Pt.slots] at X2 l2 y2 z2 st2 hQ2
  subst l2 y2 z2
  obtain ⟨rfl, Nq2, eq2⟩ := hQ2
  have N2 := Fr.app N0 Nq2
  refine og T2 (mkF m 9 #[vI (0 : Int32), vI (3 : Int32), vI (3 : Int32)] [(.int (0 : Int32))]) st2 ?_
  refine og T2 (mkF m 10 #[vI (0 : Int32), vI (3 : Int32), vI (3 : Int32)] []) (fun _ k => XS.pop X2.here hx rfl (hb hby d15_9) rfl rfl k) ?_
  exact own_leaveN X2 hlk (v := none) (fun _ => rfl) (lb rfl) (lb rfl) (by rw [eq2]; exact ⟨rfl, N2, rfl⟩) (fun fs hr => X2.returnOut hx hret (hb hby d15_10) hr)
abbrev R14_64 : Room := { frames := 2, cells := 0, slots := 0, locals := 29 }
def Q14_64 (Z : State) (ra0 : Addr) (ra1 : Addr) (kc2 : ClassId) (ci3 : Int32) (ci4 : Int32) (ci5 : Int32) (G1 : Int32) (G3 : Value) (h0 : Heap) (n0 : Nat) (v : Option Value) (h : Heap) (L : List Loc) : Prop := (v = some (.ref ra0) ∧ Fr n0 L ∧ h = h0)
theorem rm14_64 (l : Launch) (Z : State) (a0 : Array Value) (hw : HW Z a0) (ra0 : Addr) (ra1 : Addr) (kc2 : ClassId) (ci3 : Int32) (ci4 : Int32) (ci5 : Int32) (G1 : Int32) (G3 : Value) (h0 : Heap) (n0 : Nat) (OLD : Old Z n0 h0) (E_ra0 : Exa Z h0 ra0 "java/lang/String") (F_coder_ra0 : Fld Z h0 ra0 "java/lang/String" "coder" "B" (.int (0 : Int32))) (F_value_ra0 : Fld Z h0 ra0 "java/lang/String" "value" "[B" (.ref ra1)) (hl_ci3 : ¬ ci3 < 0 ∧ ¬ (255 : Int32) < ci3) (hl_ci4 : ¬ ci4 < 0 ∧ ¬ (255 : Int32) < ci4) (hl_ci5 : ¬ ci5 < 0 ∧ ¬ (255 : Int32) < ci5) (V_ra1 : Arv Z h0 ra1 kc2 .byte (3 : Int32) [(.int (ci3.toInt8.toInt32)), (.int (ci4.toInt8.toInt32)), (.int (ci5.toInt8.toInt32))] (.int (0 : Int32))) (O2 : Sta Z Z.heap "java/lang/String" "COMPACT_STRINGS" "Z" (.int G1)) (P5 : ¬ (G1 = (0 : Int32))) (O4 : Sta Z Z.heap "jdk/internal/util/Preconditions" "SIOOBE_FORMATTER" "Ljava/util/function/BiFunction;" G3) (rG3 : G3.isRef = true) :
    own_CN l Z y12 jdk_42_method_92_code 5 (some (.object "java/lang/String")) [] R14_64 #[(.ref ra0), (.int (0 : Int32)), (.int (3 : Int32))] h0 (Q14_64 Z ra0 ra1 kc2 ci3 ci4 ci5 G1 G3 h0 n0) := by
  refine own_entryN (plainFor_of_name pn_1) fun p e s m below meth c s₁ hx hby hml hown hnm hret hlk hZ hh X0 e0 => ?_
  have N0 := Fr.nil n0
  rw [ef_14_64 m ra0]
  refine og s₁ (mkF m 1 #[vR ra0, vI (0 : Int32), vI (3 : Int32), vU, vU] [(.ref ra0)]) (fun _ k => XS.aloadN X0.here hx rfl (hb hby d14_0) rfl rfl k) ?_
  have hp1 : ∀ c ∈ ([ci3, ci4, ci5] : List Int32), ¬ c < 0 ∧ ¬ (255 : Int32) < c := by
    intro c hc
    simp only [List.mem_cons, List.not_mem_nil, or_false] at hc
    rcases hc with rfl | rfl | rfl
    · exact hl_ci3
    · exact hl_ci4
    · exact hl_ci5
  obtain ⟨cq2, kq2, q2a, q2b, q2c⟩ := isOf hZ e0 E_ra0
  obtain ⟨_, _, ⟨T2, L2, k2, n2⟩, -, X2, ⟨Lc2, hQ2, l2, y2, z2⟩, st2⟩ := X0.virtualBack hx (y := y3) (z := y3) hown (mvT hZ (own_w hw 36)) (mvT hZ (own_w hw 37)) (notFace_of_selects (args := #[]) (mvT hZ (own_w hw 39))) (mvT hZ (own_w hw 39)) (mvT hZ (own_w hw 38)) (by decide) (StrChars.Road.lenW (W := 0) hZ (own_hln hw) (kI := 4) (own_w hw 7) (cs := ([ci3, ci4, ci5] : List Int32)) E_ra0 F_value_ra0 F_coder_ra0 V_ra1 (StrChars.Road.codOf rfl (fun c hc => (hp1 c hc).2)) (own_up _ hp1) (O2.ext OLD.2) P5 (lb rfl) (lb rfl) (lb rfl)) q2a q2c (g := (mkF m 1 #[vR ra0, vI (0 : Int32), vI (3 : Int32), vU, vU] [(.ref ra0)])) rfl (by rw [hml]; rfl) (Steps.refl _) (argsL := []) (rest := []) (lenOf pd_3 rfl) rfl (lb rfl) (hb hby d14_1) (fun _ _ => ⟨rfl, e0, (lb rfl), (lb rfl)⟩)
  dsimp only [Pt.U, Pt.locs, Pt.cells, Pt.slots] at X2 l2 y2 z2 st2 hQ2
  subst l2 y2 z2
  obtain ⟨rfl, rfl, eq2⟩ := hQ2
  have N2 := Fr.app N0 (Fr.nil n0)
  refine ot T2 (mkF m 4 #[vR ra0, vI (0 : Int32), vI (3 : Int32), vU, vU] [(.int (3 : Int32))]) st2 ?_
  refine og T2 (mkF m 8 #[vR ra0, vI (0 : Int32), vI (3 : Int32), vI (3 : Int32), vU] [(.int (3 : Int32)), (.int (3 : Int32)), (.int (0 : Int32))]) (fun _ k => XS.istoreN X2.here hx rfl (hb hby d14_4) rfl (l' := #[vR ra0, vI (0 : Int32), vI (3 : Int32), vI (3 : Int32), vU]) rfl (XS.iloadN X2.here hx rfl (hb hby d14_5) rfl (XS.iloadN X2.here hx rfl (hb hby d14_6) rfl (XS.iloadN X2.here hx rfl (hb hby d14_7) rfl k)))) ?_
  obtain ⟨_, _, ⟨T3, L3, k3, n3⟩, -, X3, ⟨Lc3, hQ3, l3, y3, z3⟩, st3⟩ := Jvm.LawKit.callS X2 hx (y := y11) hown (mvT hZ (own_w hw 73)) (mvT hZ (own_w hw 74)) (mvT hZ (own_w hw 8)) (mvT hZ (own_w hw 75)) (by decide) (backOf (W := 0) (rm15_65 l Z a0 hw G3 h0 n0 OLD O4 rG3) hZ (own_w hw 75) (own_w hw 8) (lb rfl) (lb rfl)) (g := (mkF m 8 #[vR ra0, vI (0 : Int32), vI (3 : Int32), vI (3 : Int32), vU] [(.int (3 : Int32)), (.int (3 : Int32)), (.int (0 : Int32))])) rfl (by rw [hml]; rfl) (argsL := [(.int (0 : Int32)), (.int (3 : Int32)), (.int (3 : Int32))]) (rest := []) (lenOf pd_10 rfl) rfl (lb rfl) (hb hby d14_8) (fun _ _ => ⟨rfl, eq2, (lb rfl), (lb rfl)⟩)
  dsimp only [Pt.U, Pt.locs, Pt.cells, Pt.slots] at X3 l3 y3 z3 st3 hQ3
  subst l3 y3 z3
  obtain ⟨rfl, Nq3, eq3⟩ := hQ3
  have N3 := Fr.app N2 Nq3
  refine og T3 (mkF m 11 #[vR ra0, vI (0 : Int32), vI (3 : Int32), vI (3 : Int32), vU] []) st3 ?_
  refine og T3 (mkF m 21 #[vR ra0, vI (0 : Int32), vI (3 : Int32), vI (3 : Int32), vU] [(.ref ra0)]) (fun _ k => XS.iloadN X3.here hx rfl (hb hby d14_11) rfl (XS.ifNo X3.here hx rfl (hb hby d14_12) rfl ((if0 _ _).trans (teq (by decide : (0 : Int32) = (0 : Int32))).2) (XS.iloadN X3.here hx rfl (hb hby d14_15) rfl (XS.iloadN X3.here hx rfl (hb hby d14_16) rfl (XS.icmpNo X3.here hx rfl (hb hby d14_17) rfl (teq (by decide : (3 : Int32) = (3 : Int32))).2 (XS.aloadN X3.here hx rfl (hb hby d14_20) rfl rfl k)))))) ?_
  exact own_leaveN X3 hlk (v := some (.ref ra0)) (fun h => by rw [hret] at h; cases h) (lb rfl) (lb rfl) (by rw [eq3]; exact ⟨rfl, N3, rfl⟩) (fun fs hr => retOut X3 hx (t := (.object "java/lang/String")) hret rfl (Or.inr (Or.inr (Or.inr (Or.inr ⟨rfl, rfl, rfl⟩)))) (hb hby d14_21) hr)
abbrev R16_69 : Room := { frames := 0, cells := 0, slots := 0, locals := 0 }
def Q16_69 (Z : State) (cv0 : Value) (h0 : Heap) (n0 : Nat) (v : Option Value) (h : Heap) (L : List Loc) : Prop := (v = some (.int (0 : Int32)) ∧ Fr n0 L ∧ h = h0)
theorem rm16_69 (l : Launch) (Z : State) (a0 : Array Value) (hw : HW Z a0) (cv0 : Value) (h0 : Heap) (n0 : Nat) (OLD : Old Z n0 h0) (rf_cv0 : cv0.isRef = true) :
    own_CN l Z y10 jdk_41_method_12_code 4 (some .int) [] R16_69 #[(.int (0 : Int32)), (.int (2 : Int32)), (.int (3 : Int32)), cv0] h0 (Q16_69 Z cv0 h0 n0) := by
  refine own_entryN (plainFor_of_name pn_3) fun p e s m below meth c s₁ hx hby hml hown hnm hret hlk hZ hh X0 e0 => ?_
  have N0 := Fr.nil n0
  rw [ef_16_69 m cv0 rf_cv0]
  refine og s₁ (mkF m 23 #[vI (0 : Int32), vI (2 : Int32), vI (3 : Int32), .val cv0] [(.int (0 : Int32))]) (fun _ k => XS.iloadN X0.here hx rfl (hb hby d16_0) rfl (XS.ifNo X0.here hx rfl (hb hby d16_1) rfl ((if0 _ _).trans (flt (by decide : ¬ ((0 : Int32) < (0 : Int32)))).1) (XS.iloadN X0.here hx rfl (hb hby d16_4) rfl (XS.iloadN X0.here hx rfl (hb hby d16_5) rfl (XS.icmpNo X0.here hx rfl (hb hby d16_6) rfl (flt (by decide : ¬ ((2 : Int32) < (0 : Int32)))).2.2.1 (XS.iloadN X0.here hx rfl (hb hby d16_9) rfl (XS.iloadN X0.here hx rfl (hb hby d16_10) rfl (XS.icmpYes X0.here hx rfl (pc0 := 11) (pc' := 22) rfl (hb hby d16_11) rfl (flt (by decide : ¬ ((3 : Int32) < (2 : Int32)))).2.2.2 (by decide) (by decide) (XS.iloadN X0.here hx rfl (hb hby d16_22) rfl k))))))))) ?_
  exact own_leaveN X0 hlk (v := some (.int (0 : Int32))) (fun h => by rw [hret] at h; cases h) (lb rfl) (lb rfl) (by rw [e0]; exact ⟨rfl, N0, rfl⟩) (fun fs hr => retI X0 hx hret (hb hby d16_23) hr)
abbrev R15_68 : Room := { frames := 1, cells := 0, slots := 0, locals := 15 }
def Q15_68 (Z : State) (G3 : Value) (h0 : Heap) (n0 : Nat) (v : Option Value) (h : Heap) (L : List Loc) : Prop := (v = none ∧ Fr n0 L ∧ h = h0)
theorem rm15_68 (l : Launch) (Z : State) (a0 : Array Value) (hw : HW Z a0) (G3 : Value) (h0 : Heap) (n0 : Nat) (OLD : Old Z n0 h0) (O4 : Sta Z Z.heap "jdk/internal/util/Preconditions" "SIOOBE_FORMATTER" "Ljava/util/function/BiFunction;" G3) (rG3 : G3.isRef = true) :
    own_CN l Z y11 jdk_42_method_158_code 3 none [] R15_68 #[(.int (0 : Int32)), (.int (2 : Int32)), (.int (3 : Int32))] h0 (Q15_68 Z G3 h0 n0) := by
  refine own_entryN (plainFor_of_name pn_1) fun p e s m below meth c s₁ hx hby hml hown hnm hret hlk hZ hh X0 e0 => ?_
  have N0 := Fr.nil n0
  rw [ef_15_68 m ]
  refine og s₁ (mkF m 3 #[vI (0 : Int32), vI (2 : Int32), vI (3 : Int32)] [(.int (3 : Int32)), (.int (2 : Int32)), (.int (0 : Int32))]) (fun _ k => XS.iloadN X0.here hx rfl (hb hby d15_0) rfl (XS.iloadN X0.here hx rfl (hb hby d15_1) rfl (XS.iloadN X0.here hx rfl (hb hby d15_2) rfl k))) ?_
  obtain ⟨T1, X1, e1, st1⟩ := getS2 X0 hx hZ hown (host := "") (Or.inl (own_w hw 76)) Via.refl e0 (O4.ext OLD.2) (g := (mkF m 3 #[vI (0 : Int32), vI (2 : Int32), vI (3 : Int32)] [(.int (3 : Int32)), (.int (2 : Int32)), (.int (0 : Int32))])) rfl (hb hby d15_3)
  refine og T1 (mkF m 6 #[vI (0 : Int32), vI (2 : Int32), vI (3 : Int32)] [G3, (.int (3 : Int32)), (.int (2 : Int32)), (.int (0 : Int32))]) st1 ?_
  obtain ⟨_, _, ⟨T2, L2, k2, n2⟩, -, X2, ⟨Lc2, hQ2, l2, y2, z2⟩, st2⟩ := Jvm.LawKit.callS X1 hx (y := y10) hown (mvT hZ (own_w hw 78)) (mvT hZ (own_w hw 79)) (mvT hZ (own_w hw 77)) (mvT hZ (own_w hw 80)) (by decide) (backOf (W := 0) (rm16_69 l Z a0 hw G3 h0 n0 OLD rG3) hZ (own_w hw 80) (own_w hw 77) (lb rfl) (lb rfl)) (g := (mkF m 6 #[vI (0 : Int32), vI (2 : Int32), vI (3 : Int32)] [G3, (.int (3 : Int32)), (.int (2 : Int32)), (.int (0 : Int32))])) rfl (by rw [hml]; rfl) (argsL := [(.int (0 : Int32)), (.int (2 : Int32)), (.int (3 : Int32)), G3]) (rest := []) (lenOf pd_9 rfl) rfl (lb rfl) (hb hby d15_6) (fun _ _ => ⟨rfl, e1, (lb rfl), (lb rfl)⟩)
  dsimp only [Pt.U, Pt.locs, Pt.cells, Pt.slots] at X2 l2 y2 z2 st2 hQ2
  subst l2 y2 z2
  obtain ⟨rfl, Nq2, eq2⟩ := hQ2
  have N2 := Fr.app N0 Nq2
  refine og T2 (mkF m 9 #[vI (0 : Int32), vI (2 : Int32), vI (3 : Int32)] [(.int (0 : Int32))]) st2 ?_
  refine og T2 (mkF m 10 #[vI (0 : Int32), vI (2 : Int32), vI (3 : Int32)] []) (fun _ k => XS.pop X2.here hx rfl (hb hby d15_9) rfl rfl k) ?_
  exact own_leaveN X2 hlk (v := none) (fun _ => rfl) (lb rfl) (lb rfl) (by rw [eq2]; exact ⟨rfl, N2, rfl⟩) (fun fs hr => X2.returnOut hx hret (hb hby d15_10) hr)
abbrev R23_73 : Room := { frames := 0, cells := 0, slots := 0, locals := 0 }
def Q23_73 (Z : State)  (h0 : Heap) (n0 : Nat) (v : Option Value) (h : Heap) (L : List Loc) : Prop := (v = none ∧ Fr n0 L ∧ h = h0)
theorem rm23_73 (l : Launch) (Z : State) (a0 : Array Value) (hw : HW Z a0)  (h0 : Heap) (n0 : Nat) (OLD : Old Z n0 h0) :
    own_CN l Z y16 jdk_65_method_131_code 2 none [] R23_73 #[(.int (0 : Int32)), (.int (2 : Int32))] h0 (Q23_73 Z  h0 n0) := by
  refine own_entryN (plainFor_of_name pn_5) fun p e s m below meth c s₁ hx hby hml hown hnm hret hlk hZ hh X0 e0 => ?_
  have N0 := Fr.nil n0
  rw [ef_23_73 m ]
  refine og s₁ (mkF m 37 #[vI (0 : Int32), vI (2 : Int32)] []) (fun _ k => XS.iloadN X0.here hx rfl (hb hby d23_0) rfl (XS.iloadN X0.here hx rfl (hb hby d23_1) rfl (XS.icmpYes X0.here hx rfl (pc0 := 2) (pc' := 37) rfl (hb hby d23_2) rfl (flt (by decide : ¬ ((2 : Int32) < (0 : Int32)))).2.1 (by decide) (by decide) k))) ?_
  exact own_leaveN X0 hlk (v := none) (fun _ => rfl) (lb rfl) (lb rfl) (by rw [e0]; exact ⟨rfl, N0, rfl⟩) (fun fs hr => X0.returnOut hx hret (hb hby d23_37) hr)
abbrev R13_74 : Room := { frames := 0, cells := 0, slots := 0, locals := 0 }
def Q13_74 (Z : State)  (h0 : Heap) (n0 : Nat) (v : Option Value) (h : Heap) (L : List Loc) : Prop := (v = some (.int (2 : Int32)) ∧ Fr n0 L ∧ h = h0)
theorem rm13_74 (l : Launch) (Z : State) (a0 : Array Value) (hw : HW Z a0)  (h0 : Heap) (n0 : Nat) (OLD : Old Z n0 h0) :
    own_CN l Z y6 jdk_29_method_69_code 2 (some .int) [] R13_74 #[(.int (3 : Int32)), (.int (2 : Int32))] h0 (Q13_74 Z  h0 n0) := by
  refine own_entryN (Jvm.Free.JP.mathPlain rfl (by decide +kernel)) fun p e s m below meth c s₁ hx hby hml hown hnm hret hlk hZ hh X0 e0 => ?_
  have N0 := Fr.nil n0
  rw [ef_13_74 m ]
  refine og s₁ (mkF m 10 #[vI (3 : Int32), vI (2 : Int32)] [(.int (2 : Int32))]) (fun _ k => XS.iloadN X0.here hx rfl (hb hby d13_0) rfl (XS.iloadN X0.here hx rfl (hb hby d13_1) rfl (XS.icmpYes X0.here hx rfl (pc0 := 2) (pc' := 9) rfl (hb hby d13_2) rfl (tlt (by decide : (2 : Int32) < (3 : Int32))).2.2.1 (by decide) (by decide) (XS.iloadN X0.here hx rfl (hb hby d13_9) rfl k)))) ?_
  exact own_leaveN X0 hlk (v := some (.int (2 : Int32))) (fun h => by rw [hret] at h; cases h) (lb rfl) (lb rfl) (by rw [e0]; exact ⟨rfl, N0, rfl⟩) (fun fs hr => retI X0 hx hret (hb hby d13_10) hr)
abbrev R22_72 : Room := { frames := 1, cells := 1, slots := 2, locals := 18 }
def Q22_72 (Z : State) (ra0 : Addr) (kc1 : ClassId) (ci2 : Int32) (ci3 : Int32) (ci4 : Int32) (h0 : Heap) (n0 : Nat) (v : Option Value) (h : Heap) (L : List Loc) : Prop := (∃ (b2 : Addr) (k2 : ClassId), v = some (.ref b2) ∧ Fr n0 L ∧ Keep h0 h [] ∧ h0.size ≤ b2 ∧ Arv Z h b2 k2 .byte (2 : Int32) [(.int (ci2.toInt8.toInt32)), (.int (ci3.toInt8.toInt32))] (.int (0 : Int32)))
theorem rm22_72 (l : Launch) (Z : State) (a0 : Array Value) (hw : HW Z a0) (ra0 : Addr) (kc1 : ClassId) (ci2 : Int32) (ci3 : Int32) (ci4 : Int32) (h0 : Heap) (n0 : Nat) (OLD : Old Z n0 h0) (hl_ci2 : ¬ ci2 < 0 ∧ ¬ (255 : Int32) < ci2) (hl_ci3 : ¬ ci3 < 0 ∧ ¬ (255 : Int32) < ci3) (hl_ci4 : ¬ ci4 < 0 ∧ ¬ (255 : Int32) < ci4) (V_ra0 : Arv Z h0 ra0 kc1 .byte (3 : Int32) [(.int (ci2.toInt8.toInt32)), (.int (ci3.toInt8.toInt32)), (.int (ci4.toInt8.toInt32))] (.int (0 : Int32))) :
    own_CN l Z y17 jdk_65_method_133_code 5 (some (.array .byte)) [] R22_72 #[(.ref ra0), (.int (0 : Int32)), (.int (2 : Int32))] h0 (Q22_72 Z ra0 kc1 ci2 ci3 ci4 h0 n0) := by
  refine own_entryN (plainFor_of_name pn_5) fun p e s m below meth c s₁ hx hby hml hown hnm hret hlk hZ hh X0 e0 => ?_
  have N0 := Fr.nil n0
  rw [ef_22_72 m ra0]
  refine og s₁ (mkF m 2 #[vR ra0, vI (0 : Int32), vI (2 : Int32), vU, vU] [(.int (2 : Int32)), (.int (0 : Int32))]) (fun _ k => XS.iloadN X0.here hx rfl (hb hby d22_0) rfl (XS.iloadN X0.here hx rfl (hb hby d22_1) rfl k)) ?_
  obtain ⟨_, _, ⟨T1, L1, k1, n1⟩, -, X1, ⟨Lc1, hQ1, l1, y1, z1⟩, st1⟩ := Jvm.LawKit.callS X0 hx (y := y16) hown (mvT hZ (own_w hw 103)) (mvT hZ (own_w hw 104)) (mvT hZ (own_w hw 98)) (mvT hZ (own_w hw 105)) (by decide) (backOf (W := 0) (rm23_73 l Z a0 hw  h0 n0 OLD ) hZ (own_w hw 105) (own_w hw 98) (lb rfl) (lb rfl)) (g := (mkF m 2 #[vR ra0, vI (0 : Int32), vI (2 : Int32), vU, vU] [(.int (2 : Int32)), (.int (0 : Int32))])) rfl (by rw [hml]; rfl) (argsL := [(.int (0 : Int32)), (.int (2 : Int32))]) (rest := []) (lenOf pd_14 rfl) rfl (lb rfl) (hb hby d22_2) (fun _ _ => ⟨rfl, e0, (lb rfl), (lb rfl)⟩)
  dsimp only [Pt.U, Pt.locs, Pt.cells, Pt.slots] at X1 l1 y1 z1 st1 hQ1
  subst l1 y1 z1
  obtain ⟨rfl, Nq1, eq1⟩ := hQ1
  have N1 := Fr.app N0 Nq1
  refine og T1 (mkF m 5 #[vR ra0, vI (0 : Int32), vI (2 : Int32), vU, vU] []) st1 ?_
  refine og T1 (mkF m 10 #[vR ra0, vI (0 : Int32), vI (2 : Int32), vI (2 : Int32), vU] [(.int (2 : Int32))]) (fun _ k => XS.iloadN X1.here hx rfl (hb hby d22_5) rfl (XS.iloadN X1.here hx rfl (hb hby d22_6) rfl (XS.isub X1.here hx rfl (hb hby d22_7) rfl (XS.istoreN X1.here hx rfl (hb hby d22_8) rfl (l' := #[vR ra0, vI (0 : Int32), vI (2 : Int32), vI (2 : Int32), vU]) rfl (XS.iloadN X1.here hx rfl (hb hby d22_9) rfl k))))) ?_
  obtain ⟨T2, h2, k2, X2, e2, E2, A2, st2⟩ := newP X1 hx hZ (own_w hw 20) eq1 (g := (mkF m 10 #[vR ra0, vI (0 : Int32), vI (2 : Int32), vI (2 : Int32), vU] [(.int (2 : Int32))])) rfl (hb hby d22_10) rfl (by decide) (cap := 2) (by decide) (lb rfl) (lb rfl) (lb rfl)
  obtain ⟨b2, gb2⟩ : ∃ z, z = h0.size := ⟨_, rfl⟩
  rw [← gb2] at A2 st2
  have g3 : n0 ≤ b2 := Nat.le_trans (own_osz OLD) (Nat.le_of_eq gb2.symm)
  have z4 : h0.size ≤ b2 := Nat.le_trans (Nat.le_refl _) (Nat.le_of_eq gb2.symm)
  have V2 : Arv Z h2 b2 k2 .byte (2 : Int32) [(.int (0 : Int32)), (.int (0 : Int32))] (.int (0 : Int32)) := (Arv.new A2 (by decide)).pad (pad_rep [] (.int (0 : Int32)) 2)
  refine og T2 (mkF m 12 #[vR ra0, vI (0 : Int32), vI (2 : Int32), vI (2 : Int32), vU] [(.ref b2)]) st2 ?_
  refine og T2 (mkF m 20 #[vR ra0, vI (0 : Int32), vI (2 : Int32), vI (2 : Int32), vR b2] [(.ref ra0), (.int (0 : Int32)), (.ref b2), (.int (0 : Int32)), (.ref ra0)]) (fun _ k => XS.astore X2.here hx rfl (hb hby d22_12) rfl rfl (l' := #[vR ra0, vI (0 : Int32), vI (2 : Int32), vI (2 : Int32), vR b2]) rfl (XS.aloadN X2.here hx rfl (hb hby d22_14) rfl rfl (XS.iloadN X2.here hx rfl (hb hby d22_15) rfl (XS.aload X2.here hx rfl (hb hby d22_16) rfl rfl (XS.iconst X2.here hx rfl (hb hby d22_18) (XS.aloadN X2.here hx rfl (hb hby d22_19) rfl rfl k)))))) ?_
  have F5 := (V_ra0.ext E2)
  obtain ⟨cl6, Ar6, -, Sr6, Nr6, -, -⟩ := id F5
  refine og T2 (mkF m 21 #[vR ra0, vI (0 : Int32), vI (2 : Int32), vI (2 : Int32), vR b2] [(.int (3 : Int32)), (.int (0 : Int32)), (.ref b2), (.int (0 : Int32)), (.ref ra0)]) (fun t k => X2.arraylength hx (by rw [e2]; exact Ar6.1) (State.isArrayOf_alike hZ.alike Ar6.2.1) (g := (mkF m 20 #[vR ra0, vI (0 : Int32), vI (2 : Int32), vI (2 : Int32), vR b2] [(.ref ra0), (.int (0 : Int32)), (.ref b2), (.int (0 : Int32)), (.ref ra0)])) rfl rfl (hb hby d22_20) t (by rw [len_of Sr6 Nr6]; exact k)) ?_
  refine og T2 (mkF m 24 #[vR ra0, vI (0 : Int32), vI (2 : Int32), vI (2 : Int32), vR b2] [(.int (2 : Int32)), (.int (3 : Int32)), (.int (0 : Int32)), (.ref b2), (.int (0 : Int32)), (.ref ra0)]) (fun _ k => XS.iloadN X2.here hx rfl (hb hby d22_21) rfl (XS.isub X2.here hx rfl (hb hby d22_22) rfl (XS.iloadN X2.here hx rfl (hb hby d22_23) rfl k))) ?_
  have F7 := (OLD.ext E2)
  obtain ⟨_, _, ⟨T8, L8, k8, n8⟩, -, X8, ⟨Lc8, hQ8, l8, y8, z8⟩, st8⟩ := Jvm.LawKit.callS X2 hx (y := y6) hown (mvT hZ (own_w hw 106)) (mvT hZ (own_w hw 65)) (mvT hZ (own_w hw 66)) (mvT hZ (own_w hw 67)) (by decide) (backOf (W := 4) (rm13_74 l Z a0 hw  h2 n0 F7 ) hZ (own_w hw 67) (own_w hw 66) (lb rfl) (lb rfl)) (g := (mkF m 24 #[vR ra0, vI (0 : Int32), vI (2 : Int32), vI (2 : Int32), vR b2] [(.int (2 : Int32)), (.int (3 : Int32)), (.int (0 : Int32)), (.ref b2), (.int (0 : Int32)), (.ref ra0)])) rfl (by rw [hml]; rfl) (argsL := [(.int (3 : Int32)), (.int (2 : Int32))]) (rest := [(.int (0 : Int32)), (.ref b2), (.int (0 : Int32)), (.ref ra0)]) (lenOf pd_6 rfl) rfl (lb rfl) (hb hby d22_24) (fun _ _ => ⟨rfl, e2, (lb rfl), (lb rfl)⟩)
  dsimp only [Pt.U, Pt.locs, Pt.cells, Pt.slots] at X8 l8 y8 z8 st8 hQ8
  subst l8 y8 z8
  obtain ⟨rfl, Nq8, eq8⟩ := hQ8
  have N8 := Fr.app N1 Nq8
  refine og T8 (mkF m 27 #[vR ra0, vI (0 : Int32), vI (2 : Int32), vI (2 : Int32), vR b2] [(.int (2 : Int32)), (.int (0 : Int32)), (.ref b2), (.int (0 : Int32)), (.ref ra0)]) st8 ?_
  obtain ⟨T9, h9, L9, X9, e9, N9, K9, Vq9, st9⟩ := cpA X8 hx hZ hown (own_w hw 107) (own_w hw 110) (own_w hw 108) (own_w hw 109) eq8 F5 V2 (us := [(.int (ci2.toInt8.toInt32)), (.int (ci3.toInt8.toInt32))]) (Or.inl ⟨rfl, rfl⟩) (by decide) (by decide) (by decide) (by decide) (by decide) rfl (by decide) N8 g3 (g := (mkF m 27 #[vR ra0, vI (0 : Int32), vI (2 : Int32), vI (2 : Int32), vR b2] [(.int (2 : Int32)), (.int (0 : Int32)), (.ref b2), (.int (0 : Int32)), (.ref ra0)])) rfl (by rw [hml]; rfl) rfl (hb hby d22_27) (lb rfl) (W := 0) (lb rfl) (lb rfl)
  have V9 : Arv Z h9 b2 k2 .byte (2 : Int32) [(.int (ci2.toInt8.toInt32)), (.int (ci3.toInt8.toInt32))] (.int (0 : Int32)) := Vq9
  refine og T9 (mkF m 30 #[vR ra0, vI (0 : Int32), vI (2 : Int32), vI (2 : Int32), vR b2] []) st9 ?_
  refine og T9 (mkF m 32 #[vR ra0, vI (0 : Int32), vI (2 : Int32), vI (2 : Int32), vR b2] [(.ref b2)]) (fun _ k => XS.aload X9.here hx rfl (hb hby d22_30) rfl rfl k) ?_
  have KEEP := (((Keep.refl h0 []).ext E2).trans K9 (allS (Or.inr z4) all0))
  exact own_leaveN X9 hlk (v := some (.ref b2)) (fun h => by rw [hret] at h; cases h) (lb rfl) (lb rfl) (by rw [e9]; exact ⟨b2, k2, rfl, N9, KEEP, z4, V9⟩) (fun fs hr => retOut X9 hx (t := (.array .byte)) hret rfl (Or.inr (Or.inr (Or.inr (Or.inr ⟨rfl, rfl, rfl⟩)))) (hb hby d22_32) hr)
abbrev R21_71 : Room := { frames := 2, cells := 1, slots := 2, locals := 34 }
def Q21_71 (Z : State) (ra0 : Addr) (kc1 : ClassId) (ci2 : Int32) (ci3 : Int32) (ci4 : Int32) (h0 : Heap) (n0 : Nat) (v : Option Value) (h : Heap) (L : List Loc) : Prop := (∃ (o3 : Addr) (kc4 : ClassId), v = some (.ref o3) ∧ Fr n0 L ∧ Keep h0 h [] ∧ h0.size ≤ o3 ∧ Arv Z h o3 kc4 .byte (2 : Int32) [(.int (ci2.toInt8.toInt32)), (.int (ci3.toInt8.toInt32))] (.int (0 : Int32)))
theorem rm21_71 (l : Launch) (Z : State) (a0 : Array Value) (hw : HW Z a0) (ra0 : Addr) (kc1 : ClassId) (ci2 : Int32) (ci3 : Int32) (ci4 : Int32) (h0 : Heap) (n0 : Nat) (OLD : Old Z n0 h0) (hl_ci2 : ¬ ci2 < 0 ∧ ¬ (255 : Int32) < ci2) (hl_ci3 : ¬ ci3 < 0 ∧ ¬ (255 : Int32) < ci3) (hl_ci4 : ¬ ci4 < 0 ∧ ¬ (255 : Int32) < ci4) (V_ra0 : Arv Z h0 ra0 kc1 .byte (3 : Int32) [(.int (ci2.toInt8.toInt32)), (.int (ci3.toInt8.toInt32)), (.int (ci4.toInt8.toInt32))] (.int (0 : Int32))) :
    own_CN l Z y18 jdk_65_method_132_code 3 (some (.array .byte)) [] R21_71 #[(.ref ra0), (.int (0 : Int32)), (.int (2 : Int32))] h0 (Q21_71 Z ra0 kc1 ci2 ci3 ci4 h0 n0) := by
  refine own_entryN (plainFor_of_name pn_5) fun p e s m below meth c s₁ hx hby hml hown hnm hret hlk hZ hh X0 e0 => ?_
  have N0 := Fr.nil n0
  rw [ef_21_71 m ra0]
  refine og s₁ (mkF m 6 #[vR ra0, vI (0 : Int32), vI (2 : Int32)] [(.ref ra0), (.int (2 : Int32))]) (fun _ k => XS.iloadN X0.here hx rfl (hb hby d21_0) rfl (XS.ifNo X0.here hx rfl (hb hby d21_1) rfl ((if0 _ _).trans (teq (by decide : (0 : Int32) = (0 : Int32))).2) (XS.iloadN X0.here hx rfl (hb hby d21_4) rfl (XS.aloadN X0.here hx rfl (hb hby d21_5) rfl rfl k)))) ?_
  obtain ⟨cl1, Ar1, -, Sr1, Nr1, -, -⟩ := id V_ra0
  refine og s₁ (mkF m 7 #[vR ra0, vI (0 : Int32), vI (2 : Int32)] [(.int (3 : Int32)), (.int (2 : Int32))]) (fun t k => X0.arraylength hx (by rw [e0]; exact Ar1.1) (State.isArrayOf_alike hZ.alike Ar1.2.1) (g := (mkF m 6 #[vR ra0, vI (0 : Int32), vI (2 : Int32)] [(.ref ra0), (.int (2 : Int32))])) rfl rfl (hb hby d21_6) t (by rw [len_of Sr1 Nr1]; exact k)) ?_
  refine og s₁ (mkF m 13 #[vR ra0, vI (0 : Int32), vI (2 : Int32)] [(.int (2 : Int32)), (.int (0 : Int32)), (.ref ra0)]) (fun _ k => XS.icmpNo X0.here hx rfl (hb hby d21_7) rfl (feq (by decide : ¬ ((2 : Int32) = (3 : Int32)))).1 (XS.aloadN X0.here hx rfl (hb hby d21_10) rfl rfl (XS.iloadN X0.here hx rfl (hb hby d21_11) rfl (XS.iloadN X0.here hx rfl (hb hby d21_12) rfl k)))) ?_
  obtain ⟨_, _, ⟨T2, L2, k2, n2⟩, -, X2, ⟨Lc2, hQ2, l2, y2, z2⟩, st2⟩ := Jvm.LawKit.callS X0 hx (y := y17) hown (mvT hZ (own_w hw 100)) (mvT hZ (own_w hw 101)) (mvT hZ (own_w hw 98)) (mvT hZ (own_w hw 102)) (by decide) (backOf (W := 0) (rm22_72 l Z a0 hw ra0 kc1 ci2 ci3 ci4 h0 n0 OLD hl_ci2 hl_ci3 hl_ci4 V_ra0) hZ (own_w hw 102) (own_w hw 98) (lb rfl) (lb rfl)) (g := (mkF m 13 #[vR ra0, vI (0 : Int32), vI (2 : Int32)] [(.int (2 : Int32)), (.int (0 : Int32)), (.ref ra0)])) rfl (by rw [hml]; rfl) (argsL := [(.ref ra0), (.int (0 : Int32)), (.int (2 : Int32))]) (rest := []) (lenOf pd_15 rfl) rfl (lb rfl) (hb hby d21_13) (fun _ _ => ⟨rfl, e0, (lb rfl), (lb rfl)⟩)
  dsimp only [Pt.U, Pt.locs, Pt.cells, Pt.slots] at X2 l2 y2 z2 st2 hQ2
  subst l2 y2 z2
  obtain ⟨o3, kc4, rfl, Nq2, K2, f5, f6⟩ := hQ2
  have N2 := Fr.app N0 Nq2
  have g7 : n0 ≤ o3 := Nat.le_trans (own_osz OLD) f5
  have z8 : h0.size ≤ o3 := Nat.le_trans (Nat.le_refl _) f5
  refine og T2 (mkF m 16 #[vR ra0, vI (0 : Int32), vI (2 : Int32)] [(.ref o3)]) st2 ?_
  have KEEP := ((Keep.refl h0 []).trans K2 all0)
  exact own_leaveN X2 hlk (v := some (.ref o3)) (fun h => by rw [hret] at h; cases h) (lb rfl) (lb rfl) (by exact ⟨o3, kc4, rfl, N2, KEEP, z8, f6⟩) (fun fs hr => retOut X2 hx (t := (.array .byte)) hret rfl (Or.inr (Or.inr (Or.inr (Or.inr ⟨rfl, rfl, rfl⟩)))) (hb hby d21_16) hr)
abbrev R24_75 : Room := { frames := 1, cells := 0, slots := 0, locals := 12 }
def Q24_75 (Z : State) (ra0 : Addr) (ra1 : Addr) (kc2 : ClassId) (ci3 : Int32) (ci4 : Int32) (h0 : Heap) (n0 : Nat) (v : Option Value) (h : Heap) (L : List Loc) : Prop := (v = none ∧ Fr n0 L ∧ Keep h0 h [ra0] ∧ Fld Z h ra0 "java/lang/String" "coder" "B" (.int (0 : Int32)) ∧ Fld Z h ra0 "java/lang/String" "value" "[B" (.ref ra1))
theorem rm24_75 (l : Launch) (Z : State) (a0 : Array Value) (hw : HW Z a0) (ra0 : Addr) (ra1 : Addr) (kc2 : ClassId) (ci3 : Int32) (ci4 : Int32) (h0 : Heap) (n0 : Nat) (OLD : Old Z n0 h0) (E_ra0 : Exa Z h0 ra0 "java/lang/String") (F_coder_ra0 : Fld Z h0 ra0 "java/lang/String" "coder" "B" (.int (0 : Int32))) (F_value_ra0 : Fld Z h0 ra0 "java/lang/String" "value" "[B" .null) (hl_ci3 : ¬ ci3 < 0 ∧ ¬ (255 : Int32) < ci3) (hl_ci4 : ¬ ci4 < 0 ∧ ¬ (255 : Int32) < ci4) (V_ra1 : Arv Z h0 ra1 kc2 .byte (2 : Int32) [(.int (ci3.toInt8.toInt32)), (.int (ci4.toInt8.toInt32))] (.int (0 : Int32))) (ge_ra0 : n0 ≤ ra0) :
    own_CN l Z y19 jdk_42_method_151_code 3 none [] R24_75 #[(.ref ra0), (.ref ra1), (.int (0 : Int32))] h0 (Q24_75 Z ra0 ra1 kc2 ci3 ci4 h0 n0) := by
  refine own_entryN (plainFor_of_name pn_1) fun p e s m below meth c s₁ hx hby hml hown hnm hret hlk hZ hh X0 e0 => ?_
  have N0 := Fr.nil n0
  rw [ef_24_75 m ra0 ra1]
  refine og s₁ (mkF m 1 #[vR ra0, vR ra1, vI (0 : Int32)] [(.ref ra0)]) (fun _ k => XS.aloadN X0.here hx rfl (hb hby d24_0) rfl rfl k) ?_
  obtain ⟨T1, X1, e1, st1⟩ := initO X0 hx hZ hown (own_w hw 16) (own_w hw 17) (own_w hw 18) e0 (g := (mkF m 1 #[vR ra0, vR ra1, vI (0 : Int32)] [(.ref ra0)])) rfl (by rw [hml]; rfl) rfl (hb hby d24_1) (by decide) (W := 0) (lb rfl) (by decide)
  refine og T1 (mkF m 4 #[vR ra0, vR ra1, vI (0 : Int32)] []) st1 ?_
  refine og T1 (mkF m 6 #[vR ra0, vR ra1, vI (0 : Int32)] [(.ref ra1), (.ref ra0)]) (fun _ k => XS.aloadN X1.here hx rfl (hb hby d24_4) rfl rfl (XS.aloadN X1.here hx rfl (hb hby d24_5) rfl rfl k)) ?_
  obtain ⟨T2, h2, X2, e2, W2, st2⟩ := putF X1 hx hZ hown (host := "") (Or.inl (own_w hw 25)) Via.refl e1 F_value_ra0 E_ra0 (Or.inr ⟨(own_w hw 21), rfl, hnm⟩) (own_w hw 7) (ty := (.array .byte)) (by decide) rfl rfl (g := (mkF m 6 #[vR ra0, vR ra1, vI (0 : Int32)] [(.ref ra1), (.ref ra0)])) rfl rfl (hb hby d24_6)
  have Fw2 := F_value_ra0.same W2
  have N2 := Fr.snoc X2 N0 ge_ra0
  refine og T2 (mkF m 9 #[vR ra0, vR ra1, vI (0 : Int32)] []) st2 ?_
  refine og T2 (mkF m 11 #[vR ra0, vR ra1, vI (0 : Int32)] [(.int (0 : Int32)), (.ref ra0)]) (fun _ k => XS.aloadN X2.here hx rfl (hb hby d24_9) rfl rfl (XS.iloadN X2.here hx rfl (hb hby d24_10) rfl k)) ?_
  have F3 := (E_ra0.wr W2)
  have F4 := (F_coder_ra0.other W2 (Or.inr (slot_ne (Or.inr (own_w hw 22)) (Or.inr (own_w hw 21)) (by decide) (t := .byte) (t' := (.array .byte)) (by decide) (by decide))))
  obtain ⟨T5, h5, X5, e5, W5, st5⟩ := putFN X2 hx hZ hown (own_w hw 26) Via.refl e2 F4 F3 (Or.inr ⟨(own_w hw 22), rfl, hnm⟩) (own_w hw 7) (ty := .byte) (v' := (.int (nar .byte (0 : Int32)))) (by decide) rfl (fits_nar_byte _) (g := (mkF m 11 #[vR ra0, vR ra1, vI (0 : Int32)] [(.int (0 : Int32)), (.ref ra0)])) rfl rfl (hb hby d24_11)
  rw [show nar .byte (0 : Int32) = (0 : Int32) from rfl] at W5
  have Fw5 := F4.same W5
  have N5 := Fr.snoc X5 N2 ge_ra0
  refine og T5 (mkF m 14 #[vR ra0, vR ra1, vI (0 : Int32)] []) st5 ?_
  have F6 := (Fw2.other W5 (Or.inr (slot_ne (Or.inr (own_w hw 21)) (Or.inr (own_w hw 22)) (by decide) (t := (.array .byte)) (t' := .byte) (by decide) (by decide))))
  have KEEP := (((Keep.refl h0 [ra0]).wr W2 (Or.inl (List.mem_of_getElem? (i := 0) rfl))).wr W5 (Or.inl (List.mem_of_getElem? (i := 0) rfl)))
  exact own_leaveN X5 hlk (v := none) (fun _ => rfl) (lb rfl) (lb rfl) (by rw [e5]; exact ⟨rfl, N5, KEEP, Fw5, F6⟩) (fun fs hr => X5.returnOut hx hret (hb hby d24_14) hr)
abbrev R20_70 : Room := { frames := 3, cells := 2, slots := 6, locals := 50 }
def Q20_70 (Z : State) (ra0 : Addr) (kc1 : ClassId) (ci2 : Int32) (ci3 : Int32) (ci4 : Int32) (h0 : Heap) (n0 : Nat) (v : Option Value) (h : Heap) (L : List Loc) : Prop := (∃ (b1 : Addr) (o7 : Addr) (kc8 : ClassId), v = some (.ref b1) ∧ Fr n0 L ∧ Keep h0 h [] ∧ h0.size ≤ b1 ∧ h0.size ≤ o7 ∧ Exa Z h b1 "java/lang/String" ∧ Fld Z h b1 "java/lang/String" "coder" "B" (.int (0 : Int32)) ∧ Fld Z h b1 "java/lang/String" "value" "[B" (.ref o7) ∧ Arv Z h o7 kc8 .byte (2 : Int32) [(.int (ci2.toInt8.toInt32)), (.int (ci3.toInt8.toInt32))] (.int (0 : Int32)))
theorem rm20_70 (l : Launch) (Z : State) (a0 : Array Value) (hw : HW Z a0) (ra0 : Addr) (kc1 : ClassId) (ci2 : Int32) (ci3 : Int32) (ci4 : Int32) (h0 : Heap) (n0 : Nat) (OLD : Old Z n0 h0) (hl_ci2 : ¬ ci2 < 0 ∧ ¬ (255 : Int32) < ci2) (hl_ci3 : ¬ ci3 < 0 ∧ ¬ (255 : Int32) < ci3) (hl_ci4 : ¬ ci4 < 0 ∧ ¬ (255 : Int32) < ci4) (V_ra0 : Arv Z h0 ra0 kc1 .byte (3 : Int32) [(.int (ci2.toInt8.toInt32)), (.int (ci3.toInt8.toInt32)), (.int (ci4.toInt8.toInt32))] (.int (0 : Int32))) :
    own_CN l Z y14 jdk_43_method_47_code 3 (some (.object "java/lang/String")) [] R20_70 #[(.ref ra0), (.int (0 : Int32)), (.int (2 : Int32))] h0 (Q20_70 Z ra0 kc1 ci2 ci3 ci4 h0 n0) := by
  refine own_entryN (plainFor_of_name pn_2) fun p e s m below meth c s₁ hx hby hml hown hnm hret hlk hZ hh X0 e0 => ?_
  have N0 := Fr.nil n0
  rw [ef_20_70 m ra0]
  refine og s₁ (mkF m 7 #[vR ra0, vI (0 : Int32), vI (2 : Int32)] []) (fun _ k => XS.iloadN X0.here hx rfl (hb hby d20_0) rfl (XS.ifYes X0.here hx rfl (pc0 := 1) (pc' := 7) rfl (hb hby d20_1) rfl ((if0 _ _).trans (feq (by decide : ¬ ((2 : Int32) = (0 : Int32)))).2) (by decide) (by decide) k)) ?_
  obtain ⟨T1, h1, X1, e1, E1, A1, D1, -, st1⟩ := newO X0 hx hZ hown (own_w hw 95) (own_w hw 7) (own_w hw 8) e0 (g := (mkF m 7 #[vR ra0, vI (0 : Int32), vI (2 : Int32)] [])) rfl (hb hby d20_7) (lb rfl) (lb rfl)
  obtain ⟨b1, gb1⟩ : ∃ z, z = h0.size := ⟨_, rfl⟩
  rw [← gb1] at A1 D1 st1
  have g2 : n0 ≤ b1 := Nat.le_trans (own_osz OLD) (Nat.le_of_eq gb1.symm)
  have z3 : h0.size ≤ b1 := Nat.le_trans (Nat.le_refl _) (Nat.le_of_eq gb1.symm)
  refine og T1 (mkF m 10 #[vR ra0, vI (0 : Int32), vI (2 : Int32)] [(.ref b1)]) st1 ?_
  refine og T1 (mkF m 16 #[vR ra0, vI (0 : Int32), vI (2 : Int32)] [(.int (2 : Int32)), (.int (0 : Int32)), (.ref ra0), (.ref b1), (.ref b1)]) (fun _ k => XS.dup X1.here hx rfl (hb hby d20_10) rfl rfl (XS.aloadN X1.here hx rfl (hb hby d20_11) rfl rfl (XS.iloadN X1.here hx rfl (hb hby d20_12) rfl (XS.iloadN X1.here hx rfl (hb hby d20_13) rfl (XS.iloadN X1.here hx rfl (hb hby d20_14) rfl (XS.iadd X1.here hx rfl (hb hby d20_15) rfl k)))))) ?_
  have F4 := (V_ra0.ext E1)
  have F5 := (OLD.ext E1)
  obtain ⟨_, _, ⟨T6, L6, k6, n6⟩, -, X6, ⟨Lc6, hQ6, l6, y6, z6⟩, st6⟩ := Jvm.LawKit.callS X1 hx (y := y18) hown (mvT hZ (own_w hw 96)) (mvT hZ (own_w hw 97)) (mvT hZ (own_w hw 98)) (mvT hZ (own_w hw 99)) (by decide) (backOf (W := 2) (rm21_71 l Z a0 hw ra0 kc1 ci2 ci3 ci4 h1 n0 F5 hl_ci2 hl_ci3 hl_ci4 F4) hZ (own_w hw 99) (own_w hw 98) (lb rfl) (lb rfl)) (g := (mkF m 16 #[vR ra0, vI (0 : Int32), vI (2 : Int32)] [(.int (2 : Int32)), (.int (0 : Int32)), (.ref ra0), (.ref b1), (.ref b1)])) rfl (by rw [hml]; rfl) (argsL := [(.ref ra0), (.int (0 : Int32)), (.int (2 : Int32))]) (rest := [(.ref b1), (.ref b1)]) (lenOf pd_15 rfl) rfl (lb rfl) (hb hby d20_16) (fun _ _ => ⟨rfl, e1, (lb rfl), (lb rfl)⟩)
  dsimp only [Pt.U, Pt.locs, Pt.cells, Pt.slots] at X6 l6 y6 z6 st6 hQ6
  subst l6 y6 z6
  obtain ⟨o7, kc8, rfl, Nq6, K6, f9, f10⟩ := hQ6
  have N6 := Fr.app N0 Nq6
  have g11 : n0 ≤ o7 := Nat.le_trans (own_osz F5) f9
  have F13 := (Nat.le_trans (Nat.le_refl _) E1.1)
  have z12 : h0.size ≤ o7 := Nat.le_trans F13 f9
  refine og T6 (mkF m 19 #[vR ra0, vI (0 : Int32), vI (2 : Int32)] [(.ref o7), (.ref b1), (.ref b1)]) st6 ?_
  refine og T6 (mkF m 20 #[vR ra0, vI (0 : Int32), vI (2 : Int32)] [(.int (0 : Int32)), (.ref o7), (.ref b1), (.ref b1)]) (fun _ k => XS.iconst X6.here hx rfl (hb hby d20_19) k) ?_
  have F14 := (A1.keep K6)
  have F15 := ((D1 (Or.inr (own_w hw 22)) (ty := .byte) (by decide)).keep K6 nin0)
  have F16 := ((D1 (Or.inr (own_w hw 21)) (ty := (.array .byte)) (by decide)).keep K6 nin0)
  have F17 := (F5.keep K6 all0)
  obtain ⟨_, _, ⟨T18, L18, k18, n18⟩, -, X18, ⟨Lc18, hQ18, l18, y18, z18⟩, st18⟩ := X6.specialBack hx (y := y19) rfl hown (mvT hZ (own_w hw 111)) (mvT hZ (own_w hw 112)) (mvT hZ (own_w hw 113)) (by decide) (backOf (W := 1) (rm24_75 l Z a0 hw b1 o7 kc8 ci2 ci3 T6.heap n0 F17 F14 F15 F16 hl_ci2 hl_ci3 f10 g2) hZ (own_w hw 113) (own_w hw 8) (lb rfl) (lb rfl)) (g := (mkF m 20 #[vR ra0, vI (0 : Int32), vI (2 : Int32)] [(.int (0 : Int32)), (.ref o7), (.ref b1), (.ref b1)])) rfl (by rw [hml]; rfl) (Steps.refl _) (a := b1) (argsL := [(.ref o7), (.int (0 : Int32))]) (rest := [(.ref b1)]) (lenOf pd_16 rfl) rfl (lb rfl) (hb hby d20_20) (fun _ _ => ⟨rfl, rfl, (lb rfl), (lb rfl)⟩)
  dsimp only [Pt.U, Pt.locs, Pt.cells, Pt.slots] at X18 l18 y18 z18 st18 hQ18
  subst l18 y18 z18
  obtain ⟨rfl, Nq18, K18, f19, f20⟩ := hQ18
  have N18 := Fr.app N6 Nq18
  refine ot T18 (mkF m 23 #[vR ra0, vI (0 : Int32), vI (2 : Int32)] [(.ref b1)]) st18 ?_
  have F21 := (F14.keep K18)
  have F22 := (f10.keep K18 (ninS (Ne.symm (own_ne_lo A1.lt f9)) nin0))
  have KEEP := ((((Keep.refl h0 []).ext E1).trans K6 all0).trans K18 (allS (Or.inr z3) all0))
  exact own_leaveN X18 hlk (v := some (.ref b1)) (fun h => by rw [hret] at h; cases h) (lb rfl) (lb rfl) (by exact ⟨b1, o7, kc8, rfl, N18, KEEP, z3, z12, F21, f19, f20, F22⟩) (fun fs hr => retOut X18 hx (t := (.object "java/lang/String")) hret rfl (Or.inr (Or.inr (Or.inr (Or.inr ⟨rfl, rfl, rfl⟩)))) (hb hby d20_23) hr)
abbrev R14_67 : Room := { frames := 4, cells := 2, slots := 6, locals := 64 }
def Q14_67 (Z : State) (ra0 : Addr) (ra1 : Addr) (kc2 : ClassId) (ci3 : Int32) (ci4 : Int32) (ci5 : Int32) (G1 : Int32) (G3 : Value) (h0 : Heap) (n0 : Nat) (v : Option Value) (h : Heap) (L : List Loc) : Prop := (∃ (o7 : Addr) (o8 : Addr) (kc9 : ClassId), v = some (.ref o7) ∧ Fr n0 L ∧ Keep h0 h [] ∧ h0.size ≤ o7 ∧ h0.size ≤ o8 ∧ Exa Z h o7 "java/lang/String" ∧ Fld Z h o7 "java/lang/String" "coder" "B" (.int (0 : Int32)) ∧ Fld Z h o7 "java/lang/String" "value" "[B" (.ref o8) ∧ Arv Z h o8 kc9 .byte (2 : Int32) [(.int (ci3.toInt8.toInt32)), (.int (ci4.toInt8.toInt32))] (.int (0 : Int32)))
theorem rm14_67 (l : Launch) (Z : State) (a0 : Array Value) (hw : HW Z a0) (ra0 : Addr) (ra1 : Addr) (kc2 : ClassId) (ci3 : Int32) (ci4 : Int32) (ci5 : Int32) (G1 : Int32) (G3 : Value) (h0 : Heap) (n0 : Nat) (OLD : Old Z n0 h0) (E_ra0 : Exa Z h0 ra0 "java/lang/String") (F_coder_ra0 : Fld Z h0 ra0 "java/lang/String" "coder" "B" (.int (0 : Int32))) (F_value_ra0 : Fld Z h0 ra0 "java/lang/String" "value" "[B" (.ref ra1)) (hl_ci3 : ¬ ci3 < 0 ∧ ¬ (255 : Int32) < ci3) (hl_ci4 : ¬ ci4 < 0 ∧ ¬ (255 : Int32) < ci4) (hl_ci5 : ¬ ci5 < 0 ∧ ¬ (255 : Int32) < ci5) (V_ra1 : Arv Z h0 ra1 kc2 .byte (3 : Int32) [(.int (ci3.toInt8.toInt32)), (.int (ci4.toInt8.toInt32)), (.int (ci5.toInt8.toInt32))] (.int (0 : Int32))) (O2 : Sta Z Z.heap "java/lang/String" "COMPACT_STRINGS" "Z" (.int G1)) (P5 : ¬ (G1 = (0 : Int32))) (O4 : Sta Z Z.heap "jdk/internal/util/Preconditions" "SIOOBE_FORMATTER" "Ljava/util/function/BiFunction;" G3) (rG3 : G3.isRef = true) :
    own_CN l Z y12 jdk_42_method_92_code 5 (some (.object "java/lang/String")) [] R14_67 #[(.ref ra0), (.int (0 : Int32)), (.int (2 : Int32))] h0 (Q14_67 Z ra0 ra1 kc2 ci3 ci4 ci5 G1 G3 h0 n0) := by
  refine own_entryN (plainFor_of_name pn_1) fun p e s m below meth c s₁ hx hby hml hown hnm hret hlk hZ hh X0 e0 => ?_
  have N0 := Fr.nil n0
  rw [ef_14_67 m ra0]
  refine og s₁ (mkF m 1 #[vR ra0, vI (0 : Int32), vI (2 : Int32), vU, vU] [(.ref ra0)]) (fun _ k => XS.aloadN X0.here hx rfl (hb hby d14_0) rfl rfl k) ?_
  have hp1 : ∀ c ∈ ([ci3, ci4, ci5] : List Int32), ¬ c < 0 ∧ ¬ (255 : Int32) < c := by
    intro c hc
    simp only [List.mem_cons, List.not_mem_nil, or_false] at hc
    rcases hc with rfl | rfl | rfl
    · exact hl_ci3
    · exact hl_ci4
    · exact hl_ci5
  obtain ⟨cq2, kq2, q2a, q2b, q2c⟩ := isOf hZ e0 E_ra0
  obtain ⟨_, _, ⟨T2, L2, k2, n2⟩, -, X2, ⟨Lc2, hQ2, l2, y2, z2⟩, st2⟩ := X0.virtualBack hx (y := y3) (z := y3) hown (mvT hZ (own_w hw 36)) (mvT hZ (own_w hw 37)) (notFace_of_selects (args := #[]) (mvT hZ (own_w hw 39))) (mvT hZ (own_w hw 39)) (mvT hZ (own_w hw 38)) (by decide) (StrChars.Road.lenW (W := 0) hZ (own_hln hw) (kI := 4) (own_w hw 7) (cs := ([ci3, ci4, ci5] : List Int32)) E_ra0 F_value_ra0 F_coder_ra0 V_ra1 (StrChars.Road.codOf rfl (fun c hc => (hp1 c hc).2)) (own_up _ hp1) (O2.ext OLD.2) P5 (lb rfl) (lb rfl) (lb rfl)) q2a q2c (g := (mkF m 1 #[vR ra0, vI (0 : Int32), vI (2 : Int32), vU, vU] [(.ref ra0)])) rfl (by rw [hml]; rfl) (Steps.refl _) (argsL := []) (rest := []) (lenOf pd_3 rfl) rfl (lb rfl) (hb hby d14_1) (fun _ _ => ⟨rfl, e0, (lb rfl), (lb rfl)⟩)
  dsimp only [Pt.U, Pt.locs, Pt.cells, Pt.slots] at X2 l2 y2 z2 st2 hQ2
  subst l2 y2 z2
  obtain ⟨rfl, rfl, eq2⟩ := hQ2
  have N2 := Fr.app N0 (Fr.nil n0)
  refine ot T2 (mkF m 4 #[vR ra0, vI (0 : Int32), vI (2 : Int32), vU, vU] [(.int (3 : Int32))]) st2 ?_
  refine og T2 (mkF m 8 #[vR ra0, vI (0 : Int32), vI (2 : Int32), vI (3 : Int32), vU] [(.int (3 : Int32)), (.int (2 : Int32)), (.int (0 : Int32))]) (fun _ k => XS.istoreN X2.here hx rfl (hb hby d14_4) rfl (l' := #[vR ra0, vI (0 : Int32), vI (2 : Int32), vI (3 : Int32), vU]) rfl (XS.iloadN X2.here hx rfl (hb hby d14_5) rfl (XS.iloadN X2.here hx rfl (hb hby d14_6) rfl (XS.iloadN X2.here hx rfl (hb hby d14_7) rfl k)))) ?_
  obtain ⟨_, _, ⟨T3, L3, k3, n3⟩, -, X3, ⟨Lc3, hQ3, l3, y3, z3⟩, st3⟩ := Jvm.LawKit.callS X2 hx (y := y11) hown (mvT hZ (own_w hw 73)) (mvT hZ (own_w hw 74)) (mvT hZ (own_w hw 8)) (mvT hZ (own_w hw 75)) (by decide) (backOf (W := 0) (rm15_68 l Z a0 hw G3 h0 n0 OLD O4 rG3) hZ (own_w hw 75) (own_w hw 8) (lb rfl) (lb rfl)) (g := (mkF m 8 #[vR ra0, vI (0 : Int32), vI (2 : Int32), vI (3 : Int32), vU] [(.int (3 : Int32)), (.int (2 : Int32)), (.int (0 : Int32))])) rfl (by rw [hml]; rfl) (argsL := [(.int (0 : Int32)), (.int (2 : Int32)), (.int (3 : Int32))]) (rest := []) (lenOf pd_10 rfl) rfl (lb rfl) (hb hby d14_8) (fun _ _ => ⟨rfl, eq2, (lb rfl), (lb rfl)⟩)
  dsimp only [Pt.U, Pt.locs, Pt.cells, Pt.slots] at X3 l3 y3 z3 st3 hQ3
  subst l3 y3 z3
  obtain ⟨rfl, Nq3, eq3⟩ := hQ3
  have N3 := Fr.app N2 Nq3
  refine og T3 (mkF m 11 #[vR ra0, vI (0 : Int32), vI (2 : Int32), vI (3 : Int32), vU] []) st3 ?_
  refine og T3 (mkF m 28 #[vR ra0, vI (0 : Int32), vI (2 : Int32), vI (3 : Int32), vI (2 : Int32)] [(.ref ra0)]) (fun _ k => XS.iloadN X3.here hx rfl (hb hby d14_11) rfl (XS.ifNo X3.here hx rfl (hb hby d14_12) rfl ((if0 _ _).trans (teq (by decide : (0 : Int32) = (0 : Int32))).2) (XS.iloadN X3.here hx rfl (hb hby d14_15) rfl (XS.iloadN X3.here hx rfl (hb hby d14_16) rfl (XS.icmpYes X3.here hx rfl (pc0 := 17) (pc' := 22) rfl (hb hby d14_17) rfl (feq (by decide : ¬ ((2 : Int32) = (3 : Int32)))).2 (by decide) (by decide) (XS.iloadN X3.here hx rfl (hb hby d14_22) rfl (XS.iloadN X3.here hx rfl (hb hby d14_23) rfl (XS.isub X3.here hx rfl (hb hby d14_24) rfl (XS.istore X3.here hx rfl (hb hby d14_25) rfl (l' := #[vR ra0, vI (0 : Int32), vI (2 : Int32), vI (3 : Int32), vI (2 : Int32)]) rfl (XS.aloadN X3.here hx rfl (hb hby d14_27) rfl rfl k)))))))))) ?_
  obtain ⟨cq4, kq4, q4a, q4b, q4c⟩ := isOf hZ eq3 E_ra0
  obtain ⟨_, _, ⟨T4, L4, k4, n4⟩, -, X4, ⟨Lc4, hQ4, l4, y4, z4⟩, st4⟩ := X3.virtualBack hx (y := y4) (z := y4) hown (mvT hZ (own_w hw 52)) (mvT hZ (own_w hw 53)) (notFace_of_selects (args := #[]) (mvT hZ (own_w hw 55))) (mvT hZ (own_w hw 55)) (mvT hZ (own_w hw 54)) (by decide) (backOf (W := 0) (rm10_61 l Z a0 hw ra0 ra1 kc2 ci3 ci4 ci5 G1 h0 n0 OLD E_ra0 F_coder_ra0 F_value_ra0 hl_ci3 hl_ci4 hl_ci5 V_ra1 O2 P5) hZ (own_w hw 56) (own_w hw 8) (lb rfl) (lb rfl)) q4a q4c (g := (mkF m 28 #[vR ra0, vI (0 : Int32), vI (2 : Int32), vI (3 : Int32), vI (2 : Int32)] [(.ref ra0)])) rfl (by rw [hml]; rfl) (Steps.refl _) (argsL := []) (rest := []) (lenOf pd_4 rfl) rfl (lb rfl) (hb hby d14_28) (fun _ _ => ⟨rfl, eq3, (lb rfl), (lb rfl)⟩)
  dsimp only [Pt.U, Pt.locs, Pt.cells, Pt.slots] at X4 l4 y4 z4 st4 hQ4
  subst l4 y4 z4
  obtain ⟨rfl, Nq4, eq4⟩ := hQ4
  have N4 := Fr.app N3 Nq4
  refine ot T4 (mkF m 31 #[vR ra0, vI (0 : Int32), vI (2 : Int32), vI (3 : Int32), vI (2 : Int32)] [(.int (1 : Int32))]) st4 ?_
  refine og T4 (mkF m 35 #[vR ra0, vI (0 : Int32), vI (2 : Int32), vI (3 : Int32), vI (2 : Int32)] [(.ref ra0)]) (fun _ k => XS.ifNo X4.here hx rfl (hb hby d14_31) rfl ((if0 _ _).trans (feq (by decide : ¬ ((1 : Int32) = (0 : Int32)))).1) (XS.aloadN X4.here hx rfl (hb hby d14_34) rfl rfl k)) ?_
  obtain ⟨T5, X5, e5, st5⟩ := getF X4 hx hZ hown (host := "") (Or.inl (own_w hw 25)) Via.refl eq4 F_value_ra0 (g := (mkF m 35 #[vR ra0, vI (0 : Int32), vI (2 : Int32), vI (3 : Int32), vI (2 : Int32)] [(.ref ra0)])) rfl rfl (hb hby d14_35)
  refine og T5 (mkF m 38 #[vR ra0, vI (0 : Int32), vI (2 : Int32), vI (3 : Int32), vI (2 : Int32)] [(.ref ra1)]) st5 ?_
  refine og T5 (mkF m 41 #[vR ra0, vI (0 : Int32), vI (2 : Int32), vI (3 : Int32), vI (2 : Int32)] [(.int (2 : Int32)), (.int (0 : Int32)), (.ref ra1)]) (fun _ k => XS.iloadN X5.here hx rfl (hb hby d14_38) rfl (XS.iload X5.here hx rfl (hb hby d14_39) rfl k)) ?_
  obtain ⟨_, _, ⟨T6, L6, k6, n6⟩, -, X6, ⟨Lc6, hQ6, l6, y6, z6⟩, st6⟩ := Jvm.LawKit.callS X5 hx (y := y14) hown (mvT hZ (own_w hw 92)) (mvT hZ (own_w hw 93)) (mvT hZ (own_w hw 59)) (mvT hZ (own_w hw 94)) (by decide) (backOf (W := 0) (rm20_70 l Z a0 hw ra1 kc2 ci3 ci4 ci5 h0 n0 OLD hl_ci3 hl_ci4 hl_ci5 V_ra1) hZ (own_w hw 94) (own_w hw 59) (lb rfl) (lb rfl)) (g := (mkF m 41 #[vR ra0, vI (0 : Int32), vI (2 : Int32), vI (3 : Int32), vI (2 : Int32)] [(.int (2 : Int32)), (.int (0 : Int32)), (.ref ra1)])) rfl (by rw [hml]; rfl) (argsL := [(.ref ra1), (.int (0 : Int32)), (.int (2 : Int32))]) (rest := []) (lenOf pd_13 rfl) rfl (lb rfl) (hb hby d14_41) (fun _ _ => ⟨rfl, e5, (lb rfl), (lb rfl)⟩)
  dsimp only [Pt.U, Pt.locs, Pt.cells, Pt.slots] at X6 l6 y6 z6 st6 hQ6
  subst l6 y6 z6
  obtain ⟨o7, o8, kc9, rfl, Nq6, K6, f10, f11, f12, f13, f14, f15⟩ := hQ6
  have N6 := Fr.app N4 Nq6
  have g16 : n0 ≤ o7 := Nat.le_trans (own_osz OLD) f10
  have z17 : h0.size ≤ o7 := Nat.le_trans (Nat.le_refl _) f10
  have g18 : n0 ≤ o8 := Nat.le_trans (own_osz OLD) f11
  have z19 : h0.size ≤ o8 := Nat.le_trans (Nat.le_refl _) f11
  refine og T6 (mkF m 44 #[vR ra0, vI (0 : Int32), vI (2 : Int32), vI (3 : Int32), vI (2 : Int32)] [(.ref o7)]) st6 ?_
  refine og T6 (mkF m 57 #[vR ra0, vI (0 : Int32), vI (2 : Int32), vI (3 : Int32), vI (2 : Int32)] [(.ref o7)]) (fun _ k => XS.goto X6.here hx rfl (pc0 := 44) (pc' := 57) rfl (hb hby d14_44) (by decide) (by decide) k) ?_
  have KEEP := ((Keep.refl h0 []).trans K6 all0)
  exact own_leaveN X6 hlk (v := some (.ref o7)) (fun h => by rw [hret] at h; cases h) (lb rfl) (lb rfl) (by exact ⟨o7, o8, kc9, rfl, N6, KEEP, z17, z19, f12, f13, f14, f15⟩) (fun fs hr => retOut X6 hx (t := (.object "java/lang/String")) hret rfl (Or.inr (Or.inr (Or.inr (Or.inr ⟨rfl, rfl, rfl⟩)))) (hb hby d14_57) hr)
abbrev R16_78 : Room := { frames := 0, cells := 0, slots := 0, locals := 0 }
def Q16_78 (Z : State) (cv0 : Value) (h0 : Heap) (n0 : Nat) (v : Option Value) (h : Heap) (L : List Loc) : Prop := (v = some (.int (0 : Int32)) ∧ Fr n0 L ∧ h = h0)
theorem rm16_78 (l : Launch) (Z : State) (a0 : Array Value) (hw : HW Z a0) (cv0 : Value) (h0 : Heap) (n0 : Nat) (OLD : Old Z n0 h0) (rf_cv0 : cv0.isRef = true) :
    own_CN l Z y10 jdk_41_method_12_code 4 (some .int) [] R16_78 #[(.int (0 : Int32)), (.int (1 : Int32)), (.int (3 : Int32)), cv0] h0 (Q16_78 Z cv0 h0 n0) := by
  refine own_entryN (plainFor_of_name pn_3) fun p e s m below meth c s₁ hx hby hml hown hnm hret hlk hZ hh X0 e0 => ?_
  have N0 := Fr.nil n0
  rw [ef_16_78 m cv0 rf_cv0]
  refine og s₁ (mkF m 23 #[vI (0 : Int32), vI (1 : Int32), vI (3 : Int32), .val cv0] [(.int (0 : Int32))]) (fun _ k => XS.iloadN X0.here hx rfl (hb hby d16_0) rfl (XS.ifNo X0.here hx rfl (hb hby d16_1) rfl ((if0 _ _).trans (flt (by decide : ¬ ((0 : Int32) < (0 : Int32)))).1) (XS.iloadN X0.here hx rfl (hb hby d16_4) rfl (XS.iloadN X0.here hx rfl (hb hby d16_5) rfl (XS.icmpNo X0.here hx rfl (hb hby d16_6) rfl (flt (by decide : ¬ ((1 : Int32) < (0 : Int32)))).2.2.1 (XS.iloadN X0.here hx rfl (hb hby d16_9) rfl (XS.iloadN X0.here hx rfl (hb hby d16_10) rfl (XS.icmpYes X0.here hx rfl (pc0 := 11) (pc' := 22) rfl (hb hby d16_11) rfl (flt (by decide : ¬ ((3 : Int32) < (1 : Int32)))).2.2.2 (by decide) (by decide) (XS.iloadN X0.here hx rfl (hb hby d16_22) rfl k))))))))) ?_
  exact own_leaveN X0 hlk (v := some (.int (0 : Int32))) (fun h => by rw [hret] at h; cases h) (lb rfl) (lb rfl) (by rw [e0]; exact ⟨rfl, N0, rfl⟩) (fun fs hr => retI X0 hx hret (hb hby d16_23) hr)
abbrev R15_77 : Room := { frames := 1, cells := 0, slots := 0, locals := 15 }
def Q15_77 (Z : State) (G3 : Value) (h0 : Heap) (n0 : Nat) (v : Option Value) (h : Heap) (L : List Loc) : Prop := (v = none ∧ Fr n0 L ∧ h = h0)
theorem rm15_77 (l : Launch) (Z : State) (a0 : Array Value) (hw : HW Z a0) (G3 : Value) (h0 : Heap) (n0 : Nat) (OLD : Old Z n0 h0) (O4 : Sta Z Z.heap "jdk/internal/util/Preconditions" "SIOOBE_FORMATTER" "Ljava/util/function/BiFunction;" G3) (rG3 : G3.isRef = true) :
    own_CN l Z y11 jdk_42_method_158_code 3 none [] R15_77 #[(.int (0 : Int32)), (.int (1 : Int32)), (.int (3 : Int32))] h0 (Q15_77 Z G3 h0 n0) := by
  refine own_entryN (plainFor_of_name pn_1) fun p e s m below meth c s₁ hx hby hml hown hnm hret hlk hZ hh X0 e0 => ?_
  have N0 := Fr.nil n0
  rw [ef_15_77 m ]
  refine og s₁ (mkF m 3 #[vI (0 : Int32), vI (1 : Int32), vI (3 : Int32)] [(.int (3 : Int32)), (.int (1 : Int32)), (.int (0 : Int32))]) (fun _ k => XS.iloadN X0.here hx rfl (hb hby d15_0) rfl (XS.iloadN X0.here hx rfl (hb hby d15_1) rfl (XS.iloadN X0.here hx rfl (hb hby d15_2) rfl k))) ?_
  obtain ⟨T1, X1, e1, st1⟩ := getS2 X0 hx hZ hown (host := "") (Or.inl (own_w hw 76)) Via.refl e0 (O4.ext OLD.2) (g := (mkF m 3 #[vI (0 : Int32), vI (1 : Int32), vI (3 : Int32)] [(.int (3 : Int32)), (.int (1 : Int32)), (.int (0 : Int32))])) rfl (hb hby d15_3)
  refine og T1 (mkF m 6 #[vI (0 : Int32), vI (1 : Int32), vI (3 : Int32)] [G3, (.int (3 : Int32)), (.int (1 : Int32)), (.int (0 : Int32))]) st1 ?_
  obtain ⟨_, _, ⟨T2, L2, k2, n2⟩, -, X2, ⟨Lc2, hQ2, l2, y2, z2⟩, st2⟩ := Jvm.LawKit.callS X1 hx (y := y10) hown (mvT hZ (own_w hw 78)) (mvT hZ (own_w hw 79)) (mvT hZ (own_w hw 77)) (mvT hZ (own_w hw 80)) (by decide) (backOf (W := 0) (rm16_78 l Z a0 hw G3 h0 n0 OLD rG3) hZ (own_w hw 80) (own_w hw 77) (lb rfl) (lb rfl)) (g := (mkF m 6 #[vI (0 : Int32), vI (1 : Int32), vI (3 : Int32)] [G3, (.int (3 : Int32)), (.int (1 : Int32)), (.int (0 : Int32))])) rfl (by rw [hml]; rfl) (argsL := [(.int (0 : Int32)), (.int (1 : Int32)), (.int (3 : Int32)), G3]) (rest := []) (lenOf pd_9 rfl) rfl (lb rfl) (hb hby d15_6) (fun _ _ => ⟨rfl, e1, (lb rfl), (lb rfl)⟩)
  dsimp only [Pt.U, Pt.locs, Pt.cells, Pt.slots] at X2 l2 y2 z2 st2 hQ2
  subst l2 y2 z2
  obtain ⟨rfl, Nq2, eq2⟩ := hQ2
  have N2 := Fr.app N0 Nq2
  refine og T2 (mkF m 9 #[vI (0 : Int32), vI (1 : Int32), vI (3 : Int32)] [(.int (0 : Int32))]) st2 ?_
  refine og T2 (mkF m 10 #[vI (0 : Int32), vI (1 : Int32), vI (3 : Int32)] []) (fun _ k => XS.pop X2.here hx rfl (hb hby d15_9) rfl rfl k) ?_
  exact own_leaveN X2 hlk (v := none) (fun _ => rfl) (lb rfl) (lb rfl) (by rw [eq2]; exact ⟨rfl, N2, rfl⟩) (fun fs hr => X2.returnOut hx hret (hb hby d15_10) hr)
abbrev R13_82 : Room := { frames := 0, cells := 0, slots := 0, locals := 0 }
def Q13_82 (Z : State)  (h0 : Heap) (n0 : Nat) (v : Option Value) (h : Heap) (L : List Loc) : Prop := (v = some (.int (1 : Int32)) ∧ Fr n0 L ∧ h = h0)
theorem rm13_82 (l : Launch) (Z : State) (a0 : Array Value) (hw : HW Z a0)  (h0 : Heap) (n0 : Nat) (OLD : Old Z n0 h0) :
    own_CN l Z y6 jdk_29_method_69_code 2 (some .int) [] R13_82 #[(.int (3 : Int32)), (.int (1 : Int32))] h0 (Q13_82 Z  h0 n0) := by
  refine own_entryN (Jvm.Free.JP.mathPlain rfl (by decide +kernel)) fun p e s m below meth c s₁ hx hby hml hown hnm hret hlk hZ hh X0 e0 => ?_
  have N0 := Fr.nil n0
  rw [ef_13_82 m ]
  refine og s₁ (mkF m 10 #[vI (3 : Int32), vI (1 : Int32)] [(.int (1 : Int32))]) (fun _ k => XS.iloadN X0.here hx rfl (hb hby d13_0) rfl (XS.iloadN X0.here hx rfl (hb hby d13_1) rfl (XS.icmpYes X0.here hx rfl (pc0 := 2) (pc' := 9) rfl (hb hby d13_2) rfl (tlt (by decide : (1 : Int32) < (3 : Int32))).2.2.1 (by decide) (by decide) (XS.iloadN X0.here hx rfl (hb hby d13_9) rfl k)))) ?_
  exact own_leaveN X0 hlk (v := some (.int (1 : Int32))) (fun h => by rw [hret] at h; cases h) (lb rfl) (lb rfl) (by rw [e0]; exact ⟨rfl, N0, rfl⟩) (fun fs hr => retI X0 hx hret (hb hby d13_10) hr)
abbrev R22_81 : Room := { frames := 1, cells := 1, slots := 1, locals := 18 }
def Q22_81 (Z : State) (ra0 : Addr) (kc1 : ClassId) (ci2 : Int32) (ci3 : Int32) (ci4 : Int32) (h0 : Heap) (n0 : Nat) (v : Option Value) (h : Heap) (L : List Loc) : Prop := (∃ (b2 : Addr) (k2 : ClassId), v = some (.ref b2) ∧ Fr n0 L ∧ Keep h0 h [] ∧ h0.size ≤ b2 ∧ Arv Z h b2 k2 .byte (1 : Int32) [(.int (ci2.toInt8.toInt32))] (.int (0 : Int32)))
theorem rm22_81 (l : Launch) (Z : State) (a0 : Array Value) (hw : HW Z a0) (ra0 : Addr) (kc1 : ClassId) (ci2 : Int32) (ci3 : Int32) (ci4 : Int32) (h0 : Heap) (n0 : Nat) (OLD : Old Z n0 h0) (hl_ci2 : ¬ ci2 < 0 ∧ ¬ (255 : Int32) < ci2) (hl_ci3 : ¬ ci3 < 0 ∧ ¬ (255 : Int32) < ci3) (hl_ci4 : ¬ ci4 < 0 ∧ ¬ (255 : Int32) < ci4) (V_ra0 : Arv Z h0 ra0 kc1 .byte (3 : Int32) [(.int (ci2.toInt8.toInt32)), (.int (ci3.toInt8.toInt32)), (.int (ci4.toInt8.toInt32))] (.int (0 : Int32))) :
    own_CN l Z y17 jdk_65_method_133_code 5 (some (.array .byte)) [] R22_81 #[(.ref ra0), (.int (0 : Int32)), (.int (1 : Int32))] h0 (Q22_81 Z ra0 kc1 ci2 ci3 ci4 h0 n0) := by
  refine own_entryN (plainFor_of_name pn_5) fun p e s m below meth c s₁ hx hby hml hown hnm hret hlk hZ hh X0 e0 => ?_
  have N0 := Fr.nil n0
  rw [ef_22_81 m ra0]
  refine og s₁ (mkF m 2 #[vR ra0, vI (0 : Int32), vI (1 : Int32), vU, vU] [(.int (1 : Int32)), (.int (0 : Int32))]) (fun _ k => XS.iloadN X0.here hx rfl (hb hby d22_0) rfl (XS.iloadN X0.here hx rfl (hb hby d22_1) rfl k)) ?_
  obtain ⟨_, _, ⟨T1, L1, k1, n1⟩, -, X1, ⟨Lc1, hQ1, l1, y1, z1⟩, st1⟩ := Jvm.LawKit.callS X0 hx (y := y16) hown (mvT hZ (own_w hw 103)) (mvT hZ (own_w hw 104)) (mvT hZ (own_w hw 98)) (mvT hZ (own_w hw 105)) (by decide) (backOf (W := 0) (rm23_48 l Z a0 hw  h0 n0 OLD ) hZ (own_w hw 105) (own_w hw 98) (lb rfl) (lb rfl)) (g := (mkF m 2 #[vR ra0, vI (0 : Int32), vI (1 : Int32), vU, vU] [(.int (1 : Int32)), (.int (0 : Int32))])) rfl (by rw [hml]; rfl) (argsL := [(.int (0 : Int32)), (.int (1 : Int32))]) (rest := []) (lenOf pd_14 rfl) rfl (lb rfl) (hb hby d22_2) (fun _ _ => ⟨rfl, e0, (lb rfl), (lb rfl)⟩)
  dsimp only [Pt.U, Pt.locs, Pt.cells, Pt.slots] at X1 l1 y1 z1 st1 hQ1
  subst l1 y1 z1
  obtain ⟨rfl, Nq1, eq1⟩ := hQ1
  have N1 := Fr.app N0 Nq1
  refine og T1 (mkF m 5 #[vR ra0, vI (0 : Int32), vI (1 : Int32), vU, vU] []) st1 ?_
  refine og T1 (mkF m 10 #[vR ra0, vI (0 : Int32), vI (1 : Int32), vI (1 : Int32), vU] [(.int (1 : Int32))]) (fun _ k => XS.iloadN X1.here hx rfl (hb hby d22_5) rfl (XS.iloadN X1.here hx rfl (hb hby d22_6) rfl (XS.isub X1.here hx rfl (hb hby d22_7) rfl (XS.istoreN X1.here hx rfl (hb hby d22_8) rfl (l' := #[vR ra0, vI (0 : Int32), vI (1 : Int32), vI (1 : Int32), vU]) rfl (XS.iloadN X1.here hx rfl (hb hby d22_9) rfl k))))) ?_
  obtain ⟨T2, h2, k2, X2, e2, E2, A2, st2⟩ := newP X1 hx hZ (own_w hw 20) eq1 (g := (mkF m 10 #[vR ra0, vI (0 : Int32), vI (1 : Int32), vI (1 : Int32), vU] [(.int (1 : Int32))])) rfl (hb hby d22_10) rfl (by decide) (cap := 1) (by decide) (lb rfl) (lb rfl) (lb rfl)
  obtain ⟨b2, gb2⟩ : ∃ z, z = h0.size := ⟨_, rfl⟩
  rw [← gb2] at A2 st2
  have g3 : n0 ≤ b2 := Nat.le_trans (own_osz OLD) (Nat.le_of_eq gb2.symm)
  have z4 : h0.size ≤ b2 := Nat.le_trans (Nat.le_refl _) (Nat.le_of_eq gb2.symm)
  have V2 : Arv Z h2 b2 k2 .byte (1 : Int32) [(.int (0 : Int32))] (.int (0 : Int32)) := (Arv.new A2 (by decide)).pad (pad_rep [] (.int (0 : Int32)) 1)
  refine og T2 (mkF m 12 #[vR ra0, vI (0 : Int32), vI (1 : Int32), vI (1 : Int32), vU] [(.ref b2)]) st2 ?_
  refine og T2 (mkF m 20 #[vR ra0, vI (0 : Int32), vI (1 : Int32), vI (1 : Int32), vR b2] [(.ref ra0), (.int (0 : Int32)), (.ref b2), (.int (0 : Int32)), (.ref ra0)]) (fun _ k => XS.astore X2.here hx rfl (hb hby d22_12) rfl rfl (l' := #[vR ra0, vI (0 : Int32), vI (1 : Int32), vI (1 : Int32), vR b2]) rfl (XS.aloadN X2.here hx rfl (hb hby d22_14) rfl rfl (XS.iloadN X2.here hx rfl (hb hby d22_15) rfl (XS.aload X2.here hx rfl (hb hby d22_16) rfl rfl (XS.iconst X2.here hx rfl (hb hby d22_18) (XS.aloadN X2.here hx rfl (hb hby d22_19) rfl rfl k)))))) ?_
  have F5 := (V_ra0.ext E2)
  obtain ⟨cl6, Ar6, -, Sr6, Nr6, -, -⟩ := id F5
  refine og T2 (mkF m 21 #[vR ra0, vI (0 : Int32), vI (1 : Int32), vI (1 : Int32), vR b2] [(.int (3 : Int32)), (.int (0 : Int32)), (.ref b2), (.int (0 : Int32)), (.ref ra0)]) (fun t k => X2.arraylength hx (by rw [e2]; exact Ar6.1) (State.isArrayOf_alike hZ.alike Ar6.2.1) (g := (mkF m 20 #[vR ra0, vI (0 : Int32), vI (1 : Int32), vI (1 : Int32), vR b2] [(.ref ra0), (.int (0 : Int32)), (.ref b2), (.int (0 : Int32)), (.ref ra0)])) rfl rfl (hb hby d22_20) t (by rw [len_of Sr6 Nr6]; exact k)) ?_
  refine og T2 (mkF m 24 #[vR ra0, vI (0 : Int32), vI (1 : Int32), vI (1 : Int32), vR b2] [(.int (1 : Int32)), (.int (3 : Int32)), (.int (0 : Int32)), (.ref b2), (.int (0 : Int32)), (.ref ra0)]) (fun _ k => XS.iloadN X2.here hx rfl (hb hby d22_21) rfl (XS.isub X2.here hx rfl (hb hby d22_22) rfl (XS.iloadN X2.here hx rfl (hb hby d22_23) rfl k))) ?_
  have F7 := (OLD.ext E2)
  obtain ⟨_, _, ⟨T8, L8, k8, n8⟩, -, X8, ⟨Lc8, hQ8, l8, y8, z8⟩, st8⟩ := Jvm.LawKit.callS X2 hx (y := y6) hown (mvT hZ (own_w hw 106)) (mvT hZ (own_w hw 65)) (mvT hZ (own_w hw 66)) (mvT hZ (own_w hw 67)) (by decide) (backOf (W := 4) (rm13_82 l Z a0 hw  h2 n0 F7 ) hZ (own_w hw 67) (own_w hw 66) (lb rfl) (lb rfl)) (g := (mkF m 24 #[vR ra0, vI (0 : Int32), vI (1 : Int32), vI (1 : Int32), vR b2] [(.int (1 : Int32)), (.int (3 : Int32)), (.int (0 : Int32)), (.ref b2), (.int (0 : Int32)), (.ref ra0)])) rfl (by rw [hml]; rfl) (argsL := [(.int (3 : Int32)), (.int (1 : Int32))]) (rest := [(.int (0 : Int32)), (.ref b2), (.int (0 : Int32)), (.ref ra0)]) (lenOf pd_6 rfl) rfl (lb rfl) (hb hby d22_24) (fun _ _ => ⟨rfl, e2, (lb rfl), (lb rfl)⟩)
  dsimp only [Pt.U, Pt.locs, Pt.cells, Pt.slots] at X8 l8 y8 z8 st8 hQ8
  subst l8 y8 z8
  obtain ⟨rfl, Nq8, eq8⟩ := hQ8
  have N8 := Fr.app N1 Nq8
  refine og T8 (mkF m 27 #[vR ra0, vI (0 : Int32), vI (1 : Int32), vI (1 : Int32), vR b2] [(.int (1 : Int32)), (.int (0 : Int32)), (.ref b2), (.int (0 : Int32)), (.ref ra0)]) st8 ?_
  obtain ⟨T9, h9, L9, X9, e9, N9, K9, Vq9, st9⟩ := cpA X8 hx hZ hown (own_w hw 107) (own_w hw 110) (own_w hw 108) (own_w hw 109) eq8 F5 V2 (us := [(.int (ci2.toInt8.toInt32))]) (Or.inl ⟨rfl, rfl⟩) (by decide) (by decide) (by decide) (by decide) (by decide) rfl (by decide) N8 g3 (g := (mkF m 27 #[vR ra0, vI (0 : Int32), vI (1 : Int32), vI (1 : Int32), vR b2] [(.int (1 : Int32)), (.int (0 : Int32)), (.ref b2), (.int (0 : Int32)), (.ref ra0)])) rfl (by rw [hml]; rfl) rfl (hb hby d22_27) (lb rfl) (W := 0) (lb rfl) (lb rfl)
  have V9 : Arv Z h9 b2 k2 .byte (1 : Int32) [(.int (ci2.toInt8.toInt32))] (.int (0 : Int32)) := Vq9
  refine og T9 (mkF m 30 #[vR ra0, vI (0 : Int32), vI (1 : Int32), vI (1 : Int32), vR b2] []) st9 ?_
  refine og T9 (mkF m 32 #[vR ra0, vI (0 : Int32), vI (1 : Int32), vI (1 : Int32), vR b2] [(.ref b2)]) (fun _ k => XS.aload X9.here hx rfl (hb hby d22_30) rfl rfl k) ?_
  have KEEP := (((Keep.refl h0 []).ext E2).trans K9 (allS (Or.inr z4) all0))
  exact own_leaveN X9 hlk (v := some (.ref b2)) (fun h => by rw [hret] at h; cases h) (lb rfl) (lb rfl) (by rw [e9]; exact ⟨b2, k2, rfl, N9, KEEP, z4, V9⟩) (fun fs hr => retOut X9 hx (t := (.array .byte)) hret rfl (Or.inr (Or.inr (Or.inr (Or.inr ⟨rfl, rfl, rfl⟩)))) (hb hby d22_32) hr)
abbrev R21_80 : Room := { frames := 2, cells := 1, slots := 1, locals := 34 }
def Q21_80 (Z : State) (ra0 : Addr) (kc1 : ClassId) (ci2 : Int32) (ci3 : Int32) (ci4 : Int32) (h0 : Heap) (n0 : Nat) (v : Option Value) (h : Heap) (L : List Loc) : Prop := (∃ (o3 : Addr) (kc4 : ClassId), v = some (.ref o3) ∧ Fr n0 L ∧ Keep h0 h [] ∧ h0.size ≤ o3 ∧ Arv Z h o3 kc4 .byte (1 : Int32) [(.int (ci2.toInt8.toInt32))] (.int (0 : Int32)))
theorem rm21_80 (l : Launch) (Z : State) (a0 : Array Value) (hw : HW Z a0) (ra0 : Addr) (kc1 : ClassId) (ci2 : Int32) (ci3 : Int32) (ci4 : Int32) (h0 : Heap) (n0 : Nat) (OLD : Old Z n0 h0) (hl_ci2 : ¬ ci2 < 0 ∧ ¬ (255 : Int32) < ci2) (hl_ci3 : ¬ ci3 < 0 ∧ ¬ (255 : Int32) < ci3) (hl_ci4 : ¬ ci4 < 0 ∧ ¬ (255 : Int32) < ci4) (V_ra0 : Arv Z h0 ra0 kc1 .byte (3 : Int32) [(.int (ci2.toInt8.toInt32)), (.int (ci3.toInt8.toInt32)), (.int (ci4.toInt8.toInt32))] (.int (0 : Int32))) :
    own_CN l Z y18 jdk_65_method_132_code 3 (some (.array .byte)) [] R21_80 #[(.ref ra0), (.int (0 : Int32)), (.int (1 : Int32))] h0 (Q21_80 Z ra0 kc1 ci2 ci3 ci4 h0 n0) := by
  refine own_entryN (plainFor_of_name pn_5) fun p e s m below meth c s₁ hx hby hml hown hnm hret hlk hZ hh X0 e0 => ?_
  have N0 := Fr.nil n0
  rw [ef_21_80 m ra0]
  refine og s₁ (mkF m 6 #[vR ra0, vI (0 : Int32), vI (1 : Int32)] [(.ref ra0), (.int (1 : Int32))]) (fun _ k => XS.iloadN X0.here hx rfl (hb hby d21_0) rfl (XS.ifNo X0.here hx rfl (hb hby d21_1) rfl ((if0 _ _).trans (teq (by decide : (0 : Int32) = (0 : Int32))).2) (XS.iloadN X0.here hx rfl (hb hby d21_4) rfl (XS.aloadN X0.here hx rfl (hb hby d21_5) rfl rfl k)))) ?_
  obtain ⟨cl1, Ar1, -, Sr1, Nr1, -, -⟩ := id V_ra0
  refine og s₁ (mkF m 7 #[vR ra0, vI (0 : Int32), vI (1 : Int32)] [(.int (3 : Int32)), (.int (1 : Int32))]) (fun t k => X0.arraylength hx (by rw [e0]; exact Ar1.1) (State.isArrayOf_alike hZ.alike Ar1.2.1) (g := (mkF m 6 #[vR ra0, vI (0 : Int32), vI (1 : Int32)] [(.ref ra0), (.int (1 : Int32))])) rfl rfl (hb hby d21_6) t (by rw [len_of Sr1 Nr1]; exact k)) ?_
  refine og s₁ (mkF m 13 #[vR ra0, vI (0 : Int32), vI (1 : Int32)] [(.int (1 : Int32)), (.int (0 : Int32)), (.ref ra0)]) (fun _ k => XS.icmpNo X0.here hx rfl (hb hby d21_7) rfl (feq (by decide : ¬ ((1 : Int32) = (3 : Int32)))).1 (XS.aloadN X0.here hx rfl (hb hby d21_10) rfl rfl (XS.iloadN X0.here hx rfl (hb hby d21_11) rfl (XS.iloadN X0.here hx rfl (hb hby d21_12) rfl k)))) ?_
  obtain ⟨_, _, ⟨T2, L2, k2, n2⟩, -, X2, ⟨Lc2, hQ2, l2, y2, z2⟩, st2⟩ := Jvm.LawKit.callS X0 hx (y := y17) hown (mvT hZ (own_w hw 100)) (mvT hZ (own_w hw 101)) (mvT hZ (own_w hw 98)) (mvT hZ (own_w hw 102)) (by decide) (backOf (W := 0) (rm22_81 l Z a0 hw ra0 kc1 ci2 ci3 ci4 h0 n0 OLD hl_ci2 hl_ci3 hl_ci4 V_ra0) hZ (own_w hw 102) (own_w hw 98) (lb rfl) (lb rfl)) (g := (mkF m 13 #[vR ra0, vI (0 : Int32), vI (1 : Int32)] [(.int (1 : Int32)), (.int (0 : Int32)), (.ref ra0)])) rfl (by rw [hml]; rfl) (argsL := [(.ref ra0), (.int (0 : Int32)), (.int (1 : Int32))]) (rest := []) (lenOf pd_15 rfl) rfl (lb rfl) (hb hby d21_13) (fun _ _ => ⟨rfl, e0, (lb rfl), (lb rfl)⟩)
  dsimp only [Pt.U, Pt.locs, Pt.cells, Pt.slots] at X2 l2 y2 z2 st2 hQ2
  subst l2 y2 z2
  obtain ⟨o3, kc4, rfl, Nq2, K2, f5, f6⟩ := hQ2
  have N2 := Fr.app N0 Nq2
  have g7 : n0 ≤ o3 := Nat.le_trans (own_osz OLD) f5
  have z8 : h0.size ≤ o3 := Nat.le_trans (Nat.le_refl _) f5
  refine og T2 (mkF m 16 #[vR ra0, vI (0 : Int32), vI (1 : Int32)] [(.ref o3)]) st2 ?_
  have KEEP := ((Keep.refl h0 []).trans K2 all0)
  exact own_leaveN X2 hlk (v := some (.ref o3)) (fun h => by rw [hret] at h; cases h) (lb rfl) (lb rfl) (by exact ⟨o3, kc4, rfl, N2, KEEP, z8, f6⟩) (fun fs hr => retOut X2 hx (t := (.array .byte)) hret rfl (Or.inr (Or.inr (Or.inr (Or.inr ⟨rfl, rfl, rfl⟩)))) (hb hby d21_16) hr)
abbrev R20_79 : Room := { frames := 3, cells := 2, slots := 5, locals := 50 }
def Q20_79 (Z : State) (ra0 : Addr) (kc1 : ClassId) (ci2 : Int32) (ci3 : Int32) (ci4 : Int32) (h0 : Heap) (n0 : Nat) (v : Option Value) (h : Heap) (L : List Loc) : Prop := (∃ (b1 : Addr) (o7 : Addr) (kc8 : ClassId), v = some (.ref b1) ∧ Fr n0 L ∧ Keep h0 h [] ∧ h0.size ≤ b1 ∧ h0.size ≤ o7 ∧ Exa Z h b1 "java/lang/String" ∧ Fld Z h b1 "java/lang/String" "coder" "B" (.int (0 : Int32)) ∧ Fld Z h b1 "java/lang/String" "value" "[B" (.ref o7) ∧ Arv Z h o7 kc8 .byte (1 : Int32) [(.int (ci2.toInt8.toInt32))] (.int (0 : Int32)))
theorem rm20_79 (l : Launch) (Z : State) (a0 : Array Value) (hw : HW Z a0) (ra0 : Addr) (kc1 : ClassId) (ci2 : Int32) (ci3 : Int32) (ci4 : Int32) (h0 : Heap) (n0 : Nat) (OLD : Old Z n0 h0) (hl_ci2 : ¬ ci2 < 0 ∧ ¬ (255 : Int32) < ci2) (hl_ci3 : ¬ ci3 < 0 ∧ ¬ (255 : Int32) < ci3) (hl_ci4 : ¬ ci4 < 0 ∧ ¬ (255 : Int32) < ci4) (V_ra0 : Arv Z h0 ra0 kc1 .byte (3 : Int32) [(.int (ci2.toInt8.toInt32)), (.int (ci3.toInt8.toInt32)), (.int (ci4.toInt8.toInt32))] (.int (0 : Int32))) :
    own_CN l Z y14 jdk_43_method_47_code 3 (some (.object "java/lang/String")) [] R20_79 #[(.ref ra0), (.int (0 : Int32)), (.int (1 : Int32))] h0 (Q20_79 Z ra0 kc1 ci2 ci3 ci4 h0 n0) := by
  refine own_entryN (plainFor_of_name pn_2) fun p e s m below meth c s₁ hx hby hml hown hnm hret hlk hZ hh X0 e0 => ?_
  have N0 := Fr.nil n0
  rw [ef_20_79 m ra0]
  refine og s₁ (mkF m 7 #[vR ra0, vI (0 : Int32), vI (1 : Int32)] []) (fun _ k => XS.iloadN X0.here hx rfl (hb hby d20_0) rfl (XS.ifYes X0.here hx rfl (pc0 := 1) (pc' := 7) rfl (hb hby d20_1) rfl ((if0 _ _).trans (feq (by decide : ¬ ((1 : Int32) = (0 : Int32)))).2) (by decide) (by decide) k)) ?_
  obtain ⟨T1, h1, X1, e1, E1, A1, D1, -, st1⟩ := newO X0 hx hZ hown (own_w hw 95) (own_w hw 7) (own_w hw 8) e0 (g := (mkF m 7 #[vR ra0, vI (0 : Int32), vI (1 : Int32)] [])) rfl (hb hby d20_7) (lb rfl) (lb rfl)
  obtain ⟨b1, gb1⟩ : ∃ z, z = h0.size := ⟨_, rfl⟩
  rw [← gb1] at A1 D1 st1
  have g2 : n0 ≤ b1 := Nat.le_trans (own_osz OLD) (Nat.le_of_eq gb1.symm)
  have z3 : h0.size ≤ b1 := Nat.le_trans (Nat.le_refl _) (Nat.le_of_eq gb1.symm)
  refine og T1 (mkF m 10 #[vR ra0, vI (0 : Int32), vI (1 : Int32)] [(.ref b1)]) st1 ?_
  refine og T1 (mkF m 16 #[vR ra0, vI (0 : Int32), vI (1 : Int32)] [(.int (1 : Int32)), (.int (0 : Int32)), (.ref ra0), (.ref b1), (.ref b1)]) (fun _ k => XS.dup X1.here hx rfl (hb hby d20_10) rfl rfl (XS.aloadN X1.here hx rfl (hb hby d20_11) rfl rfl (XS.iloadN X1.here hx rfl (hb hby d20_12) rfl (XS.iloadN X1.here hx rfl (hb hby d20_13) rfl (XS.iloadN X1.here hx rfl (hb hby d20_14) rfl (XS.iadd X1.here hx rfl (hb hby d20_15) rfl k)))))) ?_
  have F4 := (V_ra0.ext E1)
  have F5 := (OLD.ext E1)
  obtain ⟨_, _, ⟨T6, L6, k6, n6⟩, -, X6, ⟨Lc6, hQ6, l6, y6, z6⟩, st6⟩ := Jvm.LawKit.callS X1 hx (y := y18) hown (mvT hZ (own_w hw 96)) (mvT hZ (own_w hw 97)) (mvT hZ (own_w hw 98)) (mvT hZ (own_w hw 99)) (by decide) (backOf (W := 2) (rm21_80 l Z a0 hw ra0 kc1 ci2 ci3 ci4 h1 n0 F5 hl_ci2 hl_ci3 hl_ci4 F4) hZ (own_w hw 99) (own_w hw 98) (lb rfl) (lb rfl)) (g := (mkF m 16 #[vR ra0, vI (0 : Int32), vI (1 : Int32)] [(.int (1 : Int32)), (.int (0 : Int32)), (.ref ra0), (.ref b1), (.ref b1)])) rfl (by rw [hml]; rfl) (argsL := [(.ref ra0), (.int (0 : Int32)), (.int (1 : Int32))]) (rest := [(.ref b1), (.ref b1)]) (lenOf pd_15 rfl) rfl (lb rfl) (hb hby d20_16) (fun _ _ => ⟨rfl, e1, (lb rfl), (lb rfl)⟩)
  dsimp only [Pt.U, Pt.locs, Pt.cells, Pt.slots] at X6 l6 y6 z6 st6 hQ6
  subst l6 y6 z6
  obtain ⟨o7, kc8, rfl, Nq6, K6, f9, f10⟩ := hQ6
  have N6 := Fr.app N0 Nq6
  have g11 : n0 ≤ o7 := Nat.le_trans (own_osz F5) f9
  have F13 := (Nat.le_trans (Nat.le_refl _) E1.1)
  have z12 : h0.size ≤ o7 := Nat.le_trans F13 f9
  refine og T6 (mkF m 19 #[vR ra0, vI (0 : Int32), vI (1 : Int32)] [(.ref o7), (.ref b1), (.ref b1)]) st6 ?_
  refine og T6 (mkF m 20 #[vR ra0, vI (0 : Int32), vI (1 : Int32)] [(.int (0 : Int32)), (.ref o7), (.ref b1), (.ref b1)]) (fun _ k => XS.iconst X6.here hx rfl (hb hby d20_19) k) ?_
  have F14 := (A1.keep K6)
  have F15 := ((D1 (Or.inr (own_w hw 22)) (ty := .byte) (by decide)).keep K6 nin0)
  have F16 := ((D1 (Or.inr (own_w hw 21)) (ty := (.array .byte)) (by decide)).keep K6 nin0)
  have F17 := (F5.keep K6 all0)
  obtain ⟨_, _, ⟨T18, L18, k18, n18⟩, -, X18, ⟨Lc18, hQ18, l18, y18, z18⟩, st18⟩ := X6.specialBack hx (y := y19) rfl hown (mvT hZ (own_w hw 111)) (mvT hZ (own_w hw 112)) (mvT hZ (own_w hw 113)) (by decide) (backOf (W := 1) (rm24_50 l Z a0 hw b1 o7 kc8 ci2 T6.heap n0 F17 F14 F15 F16 hl_ci2 f10 g2) hZ (own_w hw 113) (own_w hw 8) (lb rfl) (lb rfl)) (g := (mkF m 20 #[vR ra0, vI (0 : Int32), vI (1 : Int32)] [(.int (0 : Int32)), (.ref o7), (.ref b1), (.ref b1)])) rfl (by rw [hml]; rfl) (Steps.refl _) (a := b1) (argsL := [(.ref o7), (.int (0 : Int32))]) (rest := [(.ref b1)]) (lenOf pd_16 rfl) rfl (lb rfl) (hb hby d20_20) (fun _ _ => ⟨rfl, rfl, (lb rfl), (lb rfl)⟩)
  dsimp only [Pt.U, Pt.locs, Pt.cells, Pt.slots] at X18 l18 y18 z18 st18 hQ18
  subst l18 y18 z18
  obtain ⟨rfl, Nq18, K18, f19, f20⟩ := hQ18
  have N18 := Fr.app N6 Nq18
  refine ot T18 (mkF m 23 #[vR ra0, vI (0 : Int32), vI (1 : Int32)] [(.ref b1)]) st18 ?_
  have F21 := (F14.keep K18)
  have F22 := (f10.keep K18 (ninS (Ne.symm (own_ne_lo A1.lt f9)) nin0))
  have KEEP := ((((Keep.refl h0 []).ext E1).trans K6 all0).trans K18 (allS (Or.inr z3) all0))
  exact own_leaveN X18 hlk (v := some (.ref b1)) (fun h => by rw [hret] at h; cases h) (lb rfl) (lb rfl) (by exact ⟨b1, o7, kc8, rfl, N18, KEEP, z3, z12, F21, f19, f20, F22⟩) (fun fs hr => retOut X18 hx (t := (.object "java/lang/String")) hret rfl (Or.inr (Or.inr (Or.inr (Or.inr ⟨rfl, rfl, rfl⟩)))) (hb hby d20_23) hr)
abbrev R14_76 : Room := { frames := 4, cells := 2, slots := 5, locals := 64 }
def Q14_76 (Z : State) (ra0 : Addr) (ra1 : Addr) (kc2 : ClassId) (ci3 : Int32) (ci4 : Int32) (ci5 : Int32) (G1 : Int32) (G3 : Value) (h0 : Heap) (n0 : Nat) (v : Option Value) (h : Heap) (L : List Loc) : Prop := (∃ (o7 : Addr) (o8 : Addr) (kc9 : ClassId), v = some (.ref o7) ∧ Fr n0 L ∧ Keep h0 h [] ∧ h0.size ≤ o7 ∧ h0.size ≤ o8 ∧ Exa Z h o7 "java/lang/String" ∧ Fld Z h o7 "java/lang/String" "coder" "B" (.int (0 : Int32)) ∧ Fld Z h o7 "java/lang/String" "value" "[B" (.ref o8) ∧ Arv Z h o8 kc9 .byte (1 : Int32) [(.int (ci3.toInt8.toInt32))] (.int (0 : Int32)))
theorem rm14_76 (l : Launch) (Z : State) (a0 : Array Value) (hw : HW Z a0) (ra0 : Addr) (ra1 : Addr) (kc2 : ClassId) (ci3 : Int32) (ci4 : Int32) (ci5 : Int32) (G1 : Int32) (G3 : Value) (h0 : Heap) (n0 : Nat) (OLD : Old Z n0 h0) (E_ra0 : Exa Z h0 ra0 "java/lang/String") (F_coder_ra0 : Fld Z h0 ra0 "java/lang/String" "coder" "B" (.int (0 : Int32))) (F_value_ra0 : Fld Z h0 ra0 "java/lang/String" "value" "[B" (.ref ra1)) (hl_ci3 : ¬ ci3 < 0 ∧ ¬ (255 : Int32) < ci3) (hl_ci4 : ¬ ci4 < 0 ∧ ¬ (255 : Int32) < ci4) (hl_ci5 : ¬ ci5 < 0 ∧ ¬ (255 : Int32) < ci5) (V_ra1 : Arv Z h0 ra1 kc2 .byte (3 : Int32) [(.int (ci3.toInt8.toInt32)), (.int (ci4.toInt8.toInt32)), (.int (ci5.toInt8.toInt32))] (.int (0 : Int32))) (O2 : Sta Z Z.heap "java/lang/String" "COMPACT_STRINGS" "Z" (.int G1)) (P5 : ¬ (G1 = (0 : Int32))) (O4 : Sta Z Z.heap "jdk/internal/util/Preconditions" "SIOOBE_FORMATTER" "Ljava/util/function/BiFunction;" G3) (rG3 : G3.isRef = true) :
    own_CN l Z y12 jdk_42_method_92_code 5 (some (.object "java/lang/String")) [] R14_76 #[(.ref ra0), (.int (0 : Int32)), (.int (1 : Int32))] h0 (Q14_76 Z ra0 ra1 kc2 ci3 ci4 ci5 G1 G3 h0 n0) := by
  refine own_entryN (plainFor_of_name pn_1) fun p e s m below meth c s₁ hx hby hml hown hnm hret hlk hZ hh X0 e0 => ?_
  have N0 := Fr.nil n0
  rw [ef_14_76 m ra0]
  refine og s₁ (mkF m 1 #[vR ra0, vI (0 : Int32), vI (1 : Int32), vU, vU] [(.ref ra0)]) (fun _ k => XS.aloadN X0.here hx rfl (hb hby d14_0) rfl rfl k) ?_
  have hp1 : ∀ c ∈ ([ci3, ci4, ci5] : List Int32), ¬ c < 0 ∧ ¬ (255 : Int32) < c := by
    intro c hc
    simp only [List.mem_cons, List.not_mem_nil, or_false] at hc
    rcases hc with rfl | rfl | rfl
    · exact hl_ci3
    · exact hl_ci4
    · exact hl_ci5
  obtain ⟨cq2, kq2, q2a, q2b, q2c⟩ := isOf hZ e0 E_ra0
  obtain ⟨_, _, ⟨T2, L2, k2, n2⟩, -, X2, ⟨Lc2, hQ2, l2, y2, z2⟩, st2⟩ := X0.virtualBack hx (y := y3) (z := y3) hown (mvT hZ (own_w hw 36)) (mvT hZ (own_w hw 37)) (notFace_of_selects (args := #[]) (mvT hZ (own_w hw 39))) (mvT hZ (own_w hw 39)) (mvT hZ (own_w hw 38)) (by decide) (StrChars.Road.lenW (W := 0) hZ (own_hln hw) (kI := 4) (own_w hw 7) (cs := ([ci3, ci4, ci5] : List Int32)) E_ra0 F_value_ra0 F_coder_ra0 V_ra1 (StrChars.Road.codOf rfl (fun c hc => (hp1 c hc).2)) (own_up _ hp1) (O2.ext OLD.2) P5 (lb rfl) (lb rfl) (lb rfl)) q2a q2c (g := (mkF m 1 #[vR ra0, vI (0 : Int32), vI (1 : Int32), vU, vU] [(.ref ra0)])) rfl (by rw [hml]; rfl) (Steps.refl _) (argsL := []) (rest := []) (lenOf pd_3 rfl) rfl (lb rfl) (hb hby d14_1) (fun _ _ => ⟨rfl, e0, (lb rfl), (lb rfl)⟩)
  dsimp only [Pt.U, Pt.locs, Pt.cells, Pt.slots] at X2 l2 y2 z2 st2 hQ2
  subst l2 y2 z2
  obtain ⟨rfl, rfl, eq2⟩ := hQ2
  have N2 := Fr.app N0 (Fr.nil n0)
  refine ot T2 (mkF m 4 #[vR ra0, vI (0 : Int32), vI (1 : Int32), vU, vU] [(.int (3 : Int32))]) st2 ?_
  refine og T2 (mkF m 8 #[vR ra0, vI (0 : Int32), vI (1 : Int32), vI (3 : Int32), vU] [(.int (3 : Int32)), (.int (1 : Int32)), (.int (0 : Int32))]) (fun _ k => XS.istoreN X2.here hx rfl (hb hby d14_4) rfl (l' := #[vR ra0, vI (0 : Int32), vI (1 : Int32), vI (3 : Int32), vU]) rfl (XS.iloadN X2.here hx rfl (hb hby d14_5) rfl (XS.iloadN X2.here hx rfl (hb hby d14_6) rfl (XS.iloadN X2.here hx rfl (hb hby d14_7) rfl k)))) ?_
  obtain ⟨_, _, ⟨T3, L3, k3, n3⟩, -, X3, ⟨Lc3, hQ3, l3, y3, z3⟩, st3⟩ := Jvm.LawKit.callS X2 hx (y := y11) hown (mvT hZ (own_w hw 73)) (mvT hZ (own_w hw 74)) (mvT hZ (own_w hw 8)) (mvT hZ (own_w hw 75)) (by decide) (backOf (W := 0) (rm15_77 l Z a0 hw G3 h0 n0 OLD O4 rG3) hZ (own_w hw 75) (own_w hw 8) (lb rfl) (lb rfl)) (g := (mkF m 8 #[vR ra0, vI (0 : Int32), vI (1 : Int32), vI (3 : Int32), vU] [(.int (3 : Int32)), (.int (1 : Int32)), (.int (0 : Int32))])) rfl (by rw [hml]; rfl) (argsL := [(.int (0 : Int32)), (.int (1 : Int32)), (.int (3 : Int32))]) (rest := []) (lenOf pd_10 rfl) rfl (lb rfl) (hb hby d14_8) (fun _ _ => ⟨rfl, eq2, (lb rfl), (lb rfl)⟩)
  dsimp only [Pt.U, Pt.locs, Pt.cells, Pt.slots] at X3 l3 y3 z3 st3 hQ3
  subst l3 y3 z3
  obtain ⟨rfl, Nq3, eq3⟩ := hQ3
  have N3 := Fr.app N2 Nq3
  refine og T3 (mkF m 11 #[vR ra0, vI (0 : Int32), vI (1 : Int32), vI (3 : Int32), vU] []) st3 ?_
  refine og T3 (mkF m 28 #[vR ra0, vI (0 : Int32), vI (1 : Int32), vI (3 : Int32), vI (1 : Int32)] [(.ref ra0)]) (fun _ k => XS.iloadN X3.here hx rfl (hb hby d14_11) rfl (XS.ifNo X3.here hx rfl (hb hby d14_12) rfl ((if0 _ _).trans (teq (by decide : (0 : Int32) = (0 : Int32))).2) (XS.iloadN X3.here hx rfl (hb hby d14_15) rfl (XS.iloadN X3.here hx rfl (hb hby d14_16) rfl (XS.icmpYes X3.here hx rfl (pc0 := 17) (pc' := 22) rfl (hb hby d14_17) rfl (feq (by decide : ¬ ((1 : Int32) = (3 : Int32)))).2 (by decide) (by decide) (XS.iloadN X3.here hx rfl (hb hby d14_22) rfl (XS.iloadN X3.here hx rfl (hb hby d14_23) rfl (XS.isub X3.here hx rfl (hb hby d14_24) rfl (XS.istore X3.here hx rfl (hb hby d14_25) rfl (l' := #[vR ra0, vI (0 : Int32), vI (1 : Int32), vI (3 : Int32), vI (1 : Int32)]) rfl (XS.aloadN X3.here hx rfl (hb hby d14_27) rfl rfl k)))))))))) ?_
  obtain ⟨cq4, kq4, q4a, q4b, q4c⟩ := isOf hZ eq3 E_ra0
  obtain ⟨_, _, ⟨T4, L4, k4, n4⟩, -, X4, ⟨Lc4, hQ4, l4, y4, z4⟩, st4⟩ := X3.virtualBack hx (y := y4) (z := y4) hown (mvT hZ (own_w hw 52)) (mvT hZ (own_w hw 53)) (notFace_of_selects (args := #[]) (mvT hZ (own_w hw 55))) (mvT hZ (own_w hw 55)) (mvT hZ (own_w hw 54)) (by decide) (backOf (W := 0) (rm10_61 l Z a0 hw ra0 ra1 kc2 ci3 ci4 ci5 G1 h0 n0 OLD E_ra0 F_coder_ra0 F_value_ra0 hl_ci3 hl_ci4 hl_ci5 V_ra1 O2 P5) hZ (own_w hw 56) (own_w hw 8) (lb rfl) (lb rfl)) q4a q4c (g := (mkF m 28 #[vR ra0, vI (0 : Int32), vI (1 : Int32), vI (3 : Int32), vI (1 : Int32)] [(.ref ra0)])) rfl (by rw [hml]; rfl) (Steps.refl _) (argsL := []) (rest := []) (lenOf pd_4 rfl) rfl (lb rfl) (hb hby d14_28) (fun _ _ => ⟨rfl, eq3, (lb rfl), (lb rfl)⟩)
  dsimp only [Pt.U, Pt.locs, Pt.cells, Pt.slots] at X4 l4 y4 z4 st4 hQ4
  subst l4 y4 z4
  obtain ⟨rfl, Nq4, eq4⟩ := hQ4
  have N4 := Fr.app N3 Nq4
  refine ot T4 (mkF m 31 #[vR ra0, vI (0 : Int32), vI (1 : Int32), vI (3 : Int32), vI (1 : Int32)] [(.int (1 : Int32))]) st4 ?_
  refine og T4 (mkF m 35 #[vR ra0, vI (0 : Int32), vI (1 : Int32), vI (3 : Int32), vI (1 : Int32)] [(.ref ra0)]) (fun _ k => XS.ifNo X4.here hx rfl (hb hby d14_31) rfl ((if0 _ _).trans (feq (by decide : ¬ ((1 : Int32) = (0 : Int32)))).1) (XS.aloadN X4.here hx rfl (hb hby d14_34) rfl rfl k)) ?_
  obtain ⟨T5, X5, e5, st5⟩ := getF X4 hx hZ hown (host := "") (Or.inl (own_w hw 25)) Via.refl eq4 F_value_ra0 (g := (mkF m 35 #[vR ra0, vI (0 : Int32), vI (1 : Int32), vI (3 : Int32), vI (1 : Int32)] [(.ref ra0)])) rfl rfl (hb hby d14_35)
  refine og T5 (mkF m 38 #[vR ra0, vI (0 : Int32), vI (1 : Int32), vI (3 : Int32), vI (1 : Int32)] [(.ref ra1)]) st5 ?_
  refine og T5 (mkF m 41 #[vR ra0, vI (0 : Int32), vI (1 : Int32), vI (3 : Int32), vI (1 : Int32)] [(.int (1 : Int32)), (.int (0 : Int32)), (.ref ra1)]) (fun _ k => XS.iloadN X5.here hx rfl (hb hby d14_38) rfl (XS.iload X5.here hx rfl (hb hby d14_39) rfl k)) ?_
  obtain ⟨_, _, ⟨T6, L6, k6, n6⟩, -, X6, ⟨Lc6, hQ6, l6, y6, z6⟩, st6⟩ := Jvm.LawKit.callS X5 hx (y := y14) hown (mvT hZ (own_w hw 92)) (mvT hZ (own_w hw 93)) (mvT hZ (own_w hw 59)) (mvT hZ (own_w hw 94)) (by decide) (backOf (W := 0) (rm20_79 l Z a0 hw ra1 kc2 ci3 ci4 ci5 h0 n0 OLD hl_ci3 hl_ci4 hl_ci5 V_ra1) hZ (own_w hw 94) (own_w hw 59) (lb rfl) (lb rfl)) (g := (mkF m 41 #[vR ra0, vI (0 : Int32), vI (1 : Int32), vI (3 : Int32), vI (1 : Int32)] [(.int (1 : Int32)), (.int (0 : Int32)), (.ref ra1)])) rfl (by rw [hml]; rfl) (argsL := [(.ref ra1), (.int (0 : Int32)), (.int (1 : Int32))]) (rest := []) (lenOf pd_13 rfl) rfl (lb rfl) (hb hby d14_41) (fun _ _ => ⟨rfl, e5, (lb rfl), (lb rfl)⟩)
  dsimp only [Pt.U, Pt.locs, Pt.cells, Pt.slots] at X6 l6 y6 z6 st6 hQ6
  subst l6 y6 z6
  obtain ⟨o7, o8, kc9, rfl, Nq6, K6, f10, f11, f12, f13, f14, f15⟩ := hQ6
  have N6 := Fr.app N4 Nq6
  have g16 : n0 ≤ o7 := Nat.le_trans (own_osz OLD) f10
  have z17 : h0.size ≤ o7 := Nat.le_trans (Nat.le_refl _) f10
  have g18 : n0 ≤ o8 := Nat.le_trans (own_osz OLD) f11
  have z19 : h0.size ≤ o8 := Nat.le_trans (Nat.le_refl _) f11
  refine og T6 (mkF m 44 #[vR ra0, vI (0 : Int32), vI (1 : Int32), vI (3 : Int32), vI (1 : Int32)] [(.ref o7)]) st6 ?_
  refine og T6 (mkF m 57 #[vR ra0, vI (0 : Int32), vI (1 : Int32), vI (3 : Int32), vI (1 : Int32)] [(.ref o7)]) (fun _ k => XS.goto X6.here hx rfl (pc0 := 44) (pc' := 57) rfl (hb hby d14_44) (by decide) (by decide) k) ?_
  have KEEP := ((Keep.refl h0 []).trans K6 all0)
  exact own_leaveN X6 hlk (v := some (.ref o7)) (fun h => by rw [hret] at h; cases h) (lb rfl) (lb rfl) (by exact ⟨o7, o8, kc9, rfl, N6, KEEP, z17, z19, f12, f13, f14, f15⟩) (fun fs hr => retOut X6 hx (t := (.object "java/lang/String")) hret rfl (Or.inr (Or.inr (Or.inr (Or.inr ⟨rfl, rfl, rfl⟩)))) (hb hby d14_57) hr)
abbrev R16_85 : Room := { frames := 0, cells := 0, slots := 0, locals := 0 }
def Q16_85 (Z : State) (cv0 : Value) (h0 : Heap) (n0 : Nat) (v : Option Value) (h : Heap) (L : List Loc) : Prop := (v = some (.int (0 : Int32)) ∧ Fr n0 L ∧ h = h0)
theorem rm16_85 (l : Launch) (Z : State) (a0 : Array Value) (hw : HW Z a0) (cv0 : Value) (h0 : Heap) (n0 : Nat) (OLD : Old Z n0 h0) (rf_cv0 : cv0.isRef = true) :
    own_CN l Z y10 jdk_41_method_12_code 4 (some .int) [] R16_85 #[(.int (0 : Int32)), (.int (0 : Int32)), (.int (3 : Int32)), cv0] h0 (Q16_85 Z cv0 h0 n0) := by
  refine own_entryN (plainFor_of_name pn_3) fun p e s m below meth c s₁ hx hby hml hown hnm hret hlk hZ hh X0 e0 => ?_
  have N0 := Fr.nil n0
  rw [ef_16_85 m cv0 rf_cv0]
  refine og s₁ (mkF m 23 #[vI (0 : Int32), vI (0 : Int32), vI (3 : Int32), .val cv0] [(.int (0 : Int32))]) (fun _ k => XS.iloadN X0.here hx rfl (hb hby d16_0) rfl (XS.ifNo X0.here hx rfl (hb hby d16_1) rfl ((if0 _ _).trans (flt (by decide : ¬ ((0 : Int32) < (0 : Int32)))).1) (XS.iloadN X0.here hx rfl (hb hby d16_4) rfl (XS.iloadN X0.here hx rfl (hb hby d16_5) rfl (XS.icmpNo X0.here hx rfl (hb hby d16_6) rfl (flt (by decide : ¬ ((0 : Int32) < (0 : Int32)))).2.2.1 (XS.iloadN X0.here hx rfl (hb hby d16_9) rfl (XS.iloadN X0.here hx rfl (hb hby d16_10) rfl (XS.icmpYes X0.here hx rfl (pc0 := 11) (pc' := 22) rfl (hb hby d16_11) rfl (flt (by decide : ¬ ((3 : Int32) < (0 : Int32)))).2.2.2 (by decide) (by decide) (XS.iloadN X0.here hx rfl (hb hby d16_22) rfl k))))))))) ?_
  exact own_leaveN X0 hlk (v := some (.int (0 : Int32))) (fun h => by rw [hret] at h; cases h) (lb rfl) (lb rfl) (by rw [e0]; exact ⟨rfl, N0, rfl⟩) (fun fs hr => retI X0 hx hret (hb hby d16_23) hr)
abbrev R15_84 : Room := { frames := 1, cells := 0, slots := 0, locals := 15 }
def Q15_84 (Z : State) (G3 : Value) (h0 : Heap) (n0 : Nat) (v : Option Value) (h : Heap) (L : List Loc) : Prop := (v = none ∧ Fr n0 L ∧ h = h0)
theorem rm15_84 (l : Launch) (Z : State) (a0 : Array Value) (hw : HW Z a0) (G3 : Value) (h0 : Heap) (n0 : Nat) (OLD : Old Z n0 h0) (O4 : Sta Z Z.heap "jdk/internal/util/Preconditions" "SIOOBE_FORMATTER" "Ljava/util/function/BiFunction;" G3) (rG3 : G3.isRef = true) :
    own_CN l Z y11 jdk_42_method_158_code 3 none [] R15_84 #[(.int (0 : Int32)), (.int (0 : Int32)), (.int (3 : Int32))] h0 (Q15_84 Z G3 h0 n0) := by
  refine own_entryN (plainFor_of_name pn_1) fun p e s m below meth c s₁ hx hby hml hown hnm hret hlk hZ hh X0 e0 => ?_
  have N0 := Fr.nil n0
  rw [ef_15_84 m ]
  refine og s₁ (mkF m 3 #[vI (0 : Int32), vI (0 : Int32), vI (3 : Int32)] [(.int (3 : Int32)), (.int (0 : Int32)), (.int (0 : Int32))]) (fun _ k => XS.iloadN X0.here hx rfl (hb hby d15_0) rfl (XS.iloadN X0.here hx rfl (hb hby d15_1) rfl (XS.iloadN X0.here hx rfl (hb hby d15_2) rfl k))) ?_
  obtain ⟨T1, X1, e1, st1⟩ := getS2 X0 hx hZ hown (host := "") (Or.inl (own_w hw 76)) Via.refl e0 (O4.ext OLD.2) (g := (mkF m 3 #[vI (0 : Int32), vI (0 : Int32), vI (3 : Int32)] [(.int (3 : Int32)), (.int (0 : Int32)), (.int (0 : Int32))])) rfl (hb hby d15_3)
  refine og T1 (mkF m 6 #[vI (0 : Int32), vI (0 : Int32), vI (3 : Int32)] [G3, (.int (3 : Int32)), (.int (0 : Int32)), (.int (0 : Int32))]) st1 ?_
  obtain ⟨_, _, ⟨T2, L2, k2, n2⟩, -, X2, ⟨Lc2, hQ2, l2, y2, z2⟩, st2⟩ := Jvm.LawKit.callS X1 hx (y := y10) hown (mvT hZ (own_w hw 78)) (mvT hZ (own_w hw 79)) (mvT hZ (own_w hw 77)) (mvT hZ (own_w hw 80)) (by decide) (backOf (W := 0) (rm16_85 l Z a0 hw G3 h0 n0 OLD rG3) hZ (own_w hw 80) (own_w hw 77) (lb rfl) (lb rfl)) (g := (mkF m 6 #[vI (0 : Int32), vI (0 : Int32), vI (3 : Int32)] [G3, (.int (3 : Int32)), (.int (0 : Int32)), (.int (0 : Int32))])) rfl (by rw [hml]; rfl) (argsL := [(.int (0 : Int32)), (.int (0 : Int32)), (.int (3 : Int32)), G3]) (rest := []) (lenOf pd_9 rfl) rfl (lb rfl) (hb hby d15_6) (fun _ _ => ⟨rfl, e1, (lb rfl), (lb rfl)⟩)
  dsimp only [Pt.U, Pt.locs, Pt.cells, Pt.slots] at X2 l2 y2 z2 st2 hQ2
  subst l2 y2 z2
  obtain ⟨rfl, Nq2, eq2⟩ := hQ2
  have N2 := Fr.app N0 Nq2
  refine og T2 (mkF m 9 #[vI (0 : Int32), vI (0 : Int32), vI (3 : Int32)] [(.int (0 : Int32))]) st2 ?_
  refine og T2 (mkF m 10 #[vI (0 : Int32), vI (0 : Int32), vI (3 : Int32)] []) (fun _ k => XS.pop X2.here hx rfl (hb hby d15_9) rfl rfl k) ?_
  exact own_leaveN X2 hlk (v := none) (fun _ => rfl) (lb rfl) (lb rfl) (by rw [eq2]; exact ⟨rfl, N2, rfl⟩) (fun fs hr => X2.returnOut hx hret (hb hby d15_10) hr)
abbrev R20_87 : Room := { frames := 0, cells := 2, slots := 4, locals := 0 }
def Q20_87 (Z : State) (ra0 : Addr) (kc1 : ClassId) (ci2 : Int32) (ci3 : Int32) (ci4 : Int32) (h0 : Heap) (n0 : Nat) (v : Option Value) (h : Heap) (L : List Loc) : Prop := (∃ (l1 : Addr) (lb1 : Addr) (lk1 : ClassId), v = some (.ref l1) ∧ Fr n0 L ∧ Keep h0 h [] ∧ l1 < h.size ∧ lb1 < h.size ∧ Exa Z h l1 "java/lang/String" ∧ Fld Z h l1 "java/lang/String" "coder" "B" (.int (0 : Int32)) ∧ Fld Z h l1 "java/lang/String" "value" "[B" (.ref lb1) ∧ Arv Z h lb1 lk1 .byte (0 : Int32) [] (.int (0 : Int32)))
theorem rm20_87 (l : Launch) (Z : State) (a0 : Array Value) (hw : HW Z a0) (ra0 : Addr) (kc1 : ClassId) (ci2 : Int32) (ci3 : Int32) (ci4 : Int32) (h0 : Heap) (n0 : Nat) (OLD : Old Z n0 h0) (hl_ci2 : ¬ ci2 < 0 ∧ ¬ (255 : Int32) < ci2) (hl_ci3 : ¬ ci3 < 0 ∧ ¬ (255 : Int32) < ci3) (hl_ci4 : ¬ ci4 < 0 ∧ ¬ (255 : Int32) < ci4) (V_ra0 : Arv Z h0 ra0 kc1 .byte (3 : Int32) [(.int (ci2.toInt8.toInt32)), (.int (ci3.toInt8.toInt32)), (.int (ci4.toInt8.toInt32))] (.int (0 : Int32))) :
    own_CW l Z y14 jdk_43_method_47_code 3 (some (.object "java/lang/String")) [] R20_87 #[(.ref ra0), (.int (0 : Int32)), (.int (0 : Int32))] h0 [] (Q20_87 Z ra0 kc1 ci2 ci3 ci4 h0 n0) := by
  refine own_entryW (plainFor_of_name pn_2) fun p e s m below meth c s₁ hx hby hml hown hnm hret hlk hZ hh hCH hSf X0 e0 => ?_
  have N0 := Fr.nil n0
  have hS0 : s.Since s.vm h0.size := own_since s _
  have hk0 : h0.size ≤ h0.size := Nat.le_refl _
  have CH0 : CHr Z own_EL s.vm h0 s.vm h0 := CHr.refl hCH
  rw [ef_20_87 m ra0]
  refine og s₁ (mkF m 4 #[vR ra0, vI (0 : Int32), vI (0 : Int32)] []) (fun _ k => XS.iloadN X0.here hx rfl (hb hby d20_0) rfl (XS.ifNo X0.here hx rfl (hb hby d20_1) rfl ((if0 _ _).trans (teq (by decide : (0 : Int32) = (0 : Int32))).2) k)) ?_
  obtain ⟨l1, T1, h1, k1, lb1, lk1, X1, e1, E1, hS1, hk1, hZ1, hown1, Ex1, Fc1, Fv1, Av1, la1, lz1, ch1, Lt1, sf1, st1⟩ := ldcCH X0 hx hZ hown (own_w hw 128) (own_wS hw) e0 hS0 hk0 (own_EW hw) (by decide) CH0.1 (vs := []) (z := (0 : Int32)) (by decide) (by decide) (by decide) (g := (mkF m 4 #[vR ra0, vI (0 : Int32), vI (0 : Int32)] [])) rfl (hb hby d20_4) (n := 0) (by decide) (by decide) (lb rfl) (lb rfl)
  have CH2 := CHr.trans CH0 ch1
  refine og T1 (mkF m 6 #[vR ra0, vI (0 : Int32), vI (0 : Int32)] [(.ref l1)]) st1 ?_
  have KEEP := ((Keep.refl h0 []).ext E1)
  exact own_leaveW (s := s) (vm0 := T1.vm) X1 hS1 hk1 hZ1 (own_EW hw) e1 CH2 hh hlk (v := some (.ref l1)) (fun h => by rw [hret] at h; cases h) (lb rfl) (lb rfl) (by rw [e1]; exact ⟨l1, lb1, lk1, rfl, N0, KEEP, la1, lz1, Ex1, Fc1, Fv1, Av1⟩) (fun fs hr => retOut X1 hx (t := (.object "java/lang/String")) hret rfl (Or.inr (Or.inr (Or.inr (Or.inr ⟨rfl, rfl, rfl⟩)))) (hb hby d20_6) hr)
abbrev R14_88 : Room := { frames := 2, cells := 2, slots := 4, locals := 29 }
def Q14_88 (Z : State) (ra0 : Addr) (ra1 : Addr) (kc2 : ClassId) (ci3 : Int32) (ci4 : Int32) (ci5 : Int32) (G1 : Int32) (G3 : Value) (h0 : Heap) (n0 : Nat) (v : Option Value) (h : Heap) (L : List Loc) : Prop := (∃ (o7 : Addr) (o8 : Addr) (kc9 : ClassId), v = some (.ref o7) ∧ Fr n0 L ∧ Keep h0 h [] ∧ o7 < h.size ∧ o8 < h.size ∧ Exa Z h o7 "java/lang/String" ∧ Fld Z h o7 "java/lang/String" "coder" "B" (.int (0 : Int32)) ∧ Fld Z h o7 "java/lang/String" "value" "[B" (.ref o8) ∧ Arv Z h o8 kc9 .byte (0 : Int32) [] (.int (0 : Int32)))
theorem rm14_88 (l : Launch) (Z : State) (a0 : Array Value) (hw : HW Z a0) (ra0 : Addr) (ra1 : Addr) (kc2 : ClassId) (ci3 : Int32) (ci4 : Int32) (ci5 : Int32) (G1 : Int32) (G3 : Value) (h0 : Heap) (n0 : Nat) (OLD : Old Z n0 h0) (E_ra0 : Exa Z h0 ra0 "java/lang/String") (F_coder_ra0 : Fld Z h0 ra0 "java/lang/String" "coder" "B" (.int (0 : Int32))) (F_value_ra0 : Fld Z h0 ra0 "java/lang/String" "value" "[B" (.ref ra1)) (hl_ci3 : ¬ ci3 < 0 ∧ ¬ (255 : Int32) < ci3) (hl_ci4 : ¬ ci4 < 0 ∧ ¬ (255 : Int32) < ci4) (hl_ci5 : ¬ ci5 < 0 ∧ ¬ (255 : Int32) < ci5) (V_ra1 : Arv Z h0 ra1 kc2 .byte (3 : Int32) [(.int (ci3.toInt8.toInt32)), (.int (ci4.toInt8.toInt32)), (.int (ci5.toInt8.toInt32))] (.int (0 : Int32))) (O2 : Sta Z Z.heap "java/lang/String" "COMPACT_STRINGS" "Z" (.int G1)) (P5 : ¬ (G1 = (0 : Int32))) (O4 : Sta Z Z.heap "jdk/internal/util/Preconditions" "SIOOBE_FORMATTER" "Ljava/util/function/BiFunction;" G3) (rG3 : G3.isRef = true) :
    own_CW l Z y12 jdk_42_method_92_code 5 (some (.object "java/lang/String")) [] R14_88 #[(.ref ra0), (.int (0 : Int32)), (.int (0 : Int32))] h0 [] (Q14_88 Z ra0 ra1 kc2 ci3 ci4 ci5 G1 G3 h0 n0) := by
  refine own_entryW (plainFor_of_name pn_1) fun p e s m below meth c s₁ hx hby hml hown hnm hret hlk hZ hh hCH hSf X0 e0 => ?_
  have N0 := Fr.nil n0
  have hS0 : s.Since s.vm h0.size := own_since s _
  have hk0 : h0.size ≤ h0.size := Nat.le_refl _
  have CH0 : CHr Z own_EL s.vm h0 s.vm h0 := CHr.refl hCH
  rw [ef_14_88 m ra0]
  refine og s₁ (mkF m 1 #[vR ra0, vI (0 : Int32), vI (0 : Int32), vU, vU] [(.ref ra0)]) (fun _ k => XS.aloadN X0.here hx rfl (hb hby d14_0) rfl rfl k) ?_
  have hp1 : ∀ c ∈ ([ci3, ci4, ci5] : List Int32), ¬ c < 0 ∧ ¬ (255 : Int32) < c := by
    intro c hc
    simp only [List.mem_cons, List.not_mem_nil, or_false] at hc
    rcases hc with rfl | rfl | rfl
    · exact hl_ci3
    · exact hl_ci4
    · exact hl_ci5
  obtain ⟨cq2, kq2, q2a, q2b, q2c⟩ := isOf hZ e0 E_ra0
  obtain ⟨_, _, ⟨T2, L2, k2, n2⟩, -, X2, ⟨Lc2, hQ2, l2, y2, z2⟩, st2⟩ := X0.virtualBack hx (y := y3) (z := y3) hown (mvT hZ (own_w hw 36)) (mvT hZ (own_w hw 37)) (notFace_of_selects (args := #[]) (mvT hZ (own_w hw 39))) (mvT hZ (own_w hw 39)) (mvT hZ (own_w hw 38)) (by decide) (StrChars.Road.lenW (W := 0) hZ (own_hln hw) (kI := 4) (own_w hw 7) (cs := ([ci3, ci4, ci5] : List Int32)) E_ra0 F_value_ra0 F_coder_ra0 V_ra1 (StrChars.Road.codOf rfl (fun c hc => (hp1 c hc).2)) (own_up _ hp1) (O2.ext OLD.2) P5 (lb rfl) (lb rfl) (lb rfl)) q2a q2c (g := (mkF m 1 #[vR ra0, vI (0 : Int32), vI (0 : Int32), vU, vU] [(.ref ra0)])) rfl (by rw [hml]; rfl) (Steps.refl _) (argsL := []) (rest := []) (lenOf pd_3 rfl) rfl (lb rfl) (hb hby d14_1) (fun _ _ => ⟨rfl, e0, (lb rfl), (lb rfl)⟩)
  dsimp only [Pt.U, Pt.locs, Pt.cells, Pt.slots] at X2 l2 y2 z2 st2 hQ2
  subst l2 y2 z2
  obtain ⟨rfl, rfl, eq2⟩ := hQ2
  have N2 := Fr.app N0 (Fr.nil n0)
  refine ot T2 (mkF m 4 #[vR ra0, vI (0 : Int32), vI (0 : Int32), vU, vU] [(.int (3 : Int32))]) st2 ?_
  refine og T2 (mkF m 8 #[vR ra0, vI (0 : Int32), vI (0 : Int32), vI (3 : Int32), vU] [(.int (3 : Int32)), (.int (0 : Int32)), (.int (0 : Int32))]) (fun _ k => XS.istoreN X2.here hx rfl (hb hby d14_4) rfl (l' := #[vR ra0, vI (0 : Int32), vI (0 : Int32), vI (3 : Int32), vU]) rfl (XS.iloadN X2.here hx rfl (hb hby d14_5) rfl (XS.iloadN X2.here hx rfl (hb hby d14_6) rfl (XS.iloadN X2.here hx rfl (hb hby d14_7) rfl k)))) ?_
  obtain ⟨_, _, ⟨T3, L3, k3, n3⟩, -, X3, ⟨Lc3, hQ3, l3, y3, z3⟩, st3⟩ := Jvm.LawKit.callS X2 hx (y := y11) hown (mvT hZ (own_w hw 73)) (mvT hZ (own_w hw 74)) (mvT hZ (own_w hw 8)) (mvT hZ (own_w hw 75)) (by decide) (backOf (W := 0) (rm15_84 l Z a0 hw G3 h0 n0 OLD O4 rG3) hZ (own_w hw 75) (own_w hw 8) (lb rfl) (lb rfl)) (g := (mkF m 8 #[vR ra0, vI (0 : Int32), vI (0 : Int32), vI (3 : Int32), vU] [(.int (3 : Int32)), (.int (0 : Int32)), (.int (0 : Int32))])) rfl (by rw [hml]; rfl) (argsL := [(.int (0 : Int32)), (.int (0 : Int32)), (.int (3 : Int32))]) (rest := []) (lenOf pd_10 rfl) rfl (lb rfl) (hb hby d14_8) (fun _ _ => ⟨rfl, eq2, (lb rfl), (lb rfl)⟩)
  dsimp only [Pt.U, Pt.locs, Pt.cells, Pt.slots] at X3 l3 y3 z3 st3 hQ3
  subst l3 y3 z3
  obtain ⟨rfl, Nq3, eq3⟩ := hQ3
  have N3 := Fr.app N2 Nq3
  refine og T3 (mkF m 11 #[vR ra0, vI (0 : Int32), vI (0 : Int32), vI (3 : Int32), vU] []) st3 ?_
  refine og T3 (mkF m 28 #[vR ra0, vI (0 : Int32), vI (0 : Int32), vI (3 : Int32), vI (0 : Int32)] [(.ref ra0)]) (fun _ k => XS.iloadN X3.here hx rfl (hb hby d14_11) rfl (XS.ifNo X3.here hx rfl (hb hby d14_12) rfl ((if0 _ _).trans (teq (by decide : (0 : Int32) = (0 : Int32))).2) (XS.iloadN X3.here hx rfl (hb hby d14_15) rfl (XS.iloadN X3.here hx rfl (hb hby d14_16) rfl (XS.icmpYes X3.here hx rfl (pc0 := 17) (pc' := 22) rfl (hb hby d14_17) rfl (feq (by decide : ¬ ((0 : Int32) = (3 : Int32)))).2 (by decide) (by decide) (XS.iloadN X3.here hx rfl (hb hby d14_22) rfl (XS.iloadN X3.here hx rfl (hb hby d14_23) rfl (XS.isub X3.here hx rfl (hb hby d14_24) rfl (XS.istore X3.here hx rfl (hb hby d14_25) rfl (l' := #[vR ra0, vI (0 : Int32), vI (0 : Int32), vI (3 : Int32), vI (0 : Int32)]) rfl (XS.aloadN X3.here hx rfl (hb hby d14_27) rfl rfl k)))))))))) ?_
  obtain ⟨cq4, kq4, q4a, q4b, q4c⟩ := isOf hZ eq3 E_ra0
  obtain ⟨_, _, ⟨T4, L4, k4, n4⟩, -, X4, ⟨Lc4, hQ4, l4, y4, z4⟩, st4⟩ := X3.virtualBack hx (y := y4) (z := y4) hown (mvT hZ (own_w hw 52)) (mvT hZ (own_w hw 53)) (notFace_of_selects (args := #[]) (mvT hZ (own_w hw 55))) (mvT hZ (own_w hw 55)) (mvT hZ (own_w hw 54)) (by decide) (backOf (W := 0) (rm10_61 l Z a0 hw ra0 ra1 kc2 ci3 ci4 ci5 G1 h0 n0 OLD E_ra0 F_coder_ra0 F_value_ra0 hl_ci3 hl_ci4 hl_ci5 V_ra1 O2 P5) hZ (own_w hw 56) (own_w hw 8) (lb rfl) (lb rfl)) q4a q4c (g := (mkF m 28 #[vR ra0, vI (0 : Int32), vI (0 : Int32), vI (3 : Int32), vI (0 : Int32)] [(.ref ra0)])) rfl (by rw [hml]; rfl) (Steps.refl _) (argsL := []) (rest := []) (lenOf pd_4 rfl) rfl (lb rfl) (hb hby d14_28) (fun _ _ => ⟨rfl, eq3, (lb rfl), (lb rfl)⟩)
  dsimp only [Pt.U, Pt.locs, Pt.cells, Pt.slots] at X4 l4 y4 z4 st4 hQ4
  subst l4 y4 z4
  obtain ⟨rfl, Nq4, eq4⟩ := hQ4
  have N4 := Fr.app N3 Nq4
  refine ot T4 (mkF m 31 #[vR ra0, vI (0 : Int32), vI (0 : Int32), vI (3 : Int32), vI (0 : Int32)] [(.int (1 : Int32))]) st4 ?_
  refine og T4 (mkF m 35 #[vR ra0, vI (0 : Int32), vI (0 : Int32), vI (3 : Int32), vI (0 : Int32)] [(.ref ra0)]) (fun _ k => XS.ifNo X4.here hx rfl (hb hby d14_31) rfl ((if0 _ _).trans (feq (by decide : ¬ ((1 : Int32) = (0 : Int32)))).1) (XS.aloadN X4.here hx rfl (hb hby d14_34) rfl rfl k)) ?_
  obtain ⟨T5, X5, e5, st5⟩ := getF X4 hx hZ hown (host := "") (Or.inl (own_w hw 25)) Via.refl eq4 F_value_ra0 (g := (mkF m 35 #[vR ra0, vI (0 : Int32), vI (0 : Int32), vI (3 : Int32), vI (0 : Int32)] [(.ref ra0)])) rfl rfl (hb hby d14_35)
  refine og T5 (mkF m 38 #[vR ra0, vI (0 : Int32), vI (0 : Int32), vI (3 : Int32), vI (0 : Int32)] [(.ref ra1)]) st5 ?_
  refine og T5 (mkF m 41 #[vR ra0, vI (0 : Int32), vI (0 : Int32), vI (3 : Int32), vI (0 : Int32)] [(.int (0 : Int32)), (.int (0 : Int32)), (.ref ra1)]) (fun _ k => XS.iloadN X5.here hx rfl (hb hby d14_38) rfl (XS.iload X5.here hx rfl (hb hby d14_39) rfl k)) ?_
  obtain ⟨_, _, ⟨T6, L6, k6, n6⟩, -, X6, hs6, hg6, ⟨Lc6, hQ6, l6, y6, z6, ch6⟩, st6⟩ := callSS X5 hx (y := y14) hown (mvT hZ (own_w hw 92)) (mvT hZ (own_w hw 93)) (mvT hZ (own_w hw 59)) (mvT hZ (own_w hw 94)) (by decide) (own_backSH (W := 0) (rm20_87 l Z a0 hw ra1 kc2 ci3 ci4 ci5 h0 n0 OLD hl_ci3 hl_ci4 hl_ci5 V_ra1) hZ (own_w hw 94) (own_w hw 59) (lb rfl) (lb rfl) (own_EW hw) CH0.1 all0) (g := (mkF m 41 #[vR ra0, vI (0 : Int32), vI (0 : Int32), vI (3 : Int32), vI (0 : Int32)] [(.int (0 : Int32)), (.int (0 : Int32)), (.ref ra1)])) rfl (by rw [hml]; rfl) (argsL := [(.ref ra1), (.int (0 : Int32)), (.int (0 : Int32))]) (rest := []) (lenOf pd_13 rfl) rfl (lb rfl) (hb hby d14_41) (fun _ _ => ⟨rfl, e5, (lb rfl), (lb rfl)⟩)
  dsimp only [Pt.U, Pt.locs, Pt.cells, Pt.slots] at X6 l6 y6 z6 st6 hQ6 hs6 hg6 ch6
  subst l6 y6 z6
  replace X6 := own_reb X6
  obtain ⟨hZ6, hS6, hown6⟩ := own_after hZ hS0 e5 hk0 hs6 hg6 hown
  obtain ⟨o7, o8, kc9, rfl, Nq6, K6, f10, f11, f12, f13, f14, f15⟩ := hQ6
  have N6 := Fr.app N4 Nq6
  have CH16 := CHr.trans CH0 ch6
  refine ot T6 (mkF m 44 #[vR ra0, vI (0 : Int32), vI (0 : Int32), vI (3 : Int32), vI (0 : Int32)] [(.ref o7)]) st6 ?_
  refine og T6 (mkF m 57 #[vR ra0, vI (0 : Int32), vI (0 : Int32), vI (3 : Int32), vI (0 : Int32)] [(.ref o7)]) (fun _ k => XS.goto X6.here hx rfl (pc0 := 44) (pc' := 57) rfl (hb hby d14_44) (by decide) (by decide) k) ?_
  have KEEP := ((Keep.refl h0 []).trans K6 all0)
  exact own_leaveW (s := s) (vm0 := T6.vm) X6 hS6 (Nat.le_refl _) hZ6 (own_EW hw) rfl CH16 hh hlk (v := some (.ref o7)) (fun h => by rw [hret] at h; cases h) (lb rfl) (lb rfl) (by exact ⟨o7, o8, kc9, rfl, N6, KEEP, f10, f11, f12, f13, f14, f15⟩) (fun fs hr => retOut X6 hx (t := (.object "java/lang/String")) hret rfl (Or.inr (Or.inr (Or.inr (Or.inr ⟨rfl, rfl, rfl⟩)))) (hb hby d14_57) hr)
abbrev R5_89 : Room := { frames := 5, cells := 2, slots := 6, locals := 80 }
def Q5_89 (Z : State) (ra0 : Addr) (ra1 : Addr) (kc2 : ClassId) (ci3 : Int32) (ci4 : Int32) (ci5 : Int32) (G1 : Int32) (G3 : Value) (h0 : Heap) (n0 : Nat) (v : Option Value) (h : Heap) (L : List Loc) : Prop := ((ci5.toInt8.toInt32) = (46 : Int32) ∧ v = some (.ref ra0) ∧ Fr n0 L ∧ h = h0) ∨ (∃ (o7 : Addr) (o8 : Addr) (kc9 : ClassId), (¬ ((ci5.toInt8.toInt32) = (46 : Int32))) ∧ (ci4.toInt8.toInt32) = (46 : Int32) ∧ v = some (.ref o7) ∧ Fr n0 L ∧ Keep h0 h [] ∧ h0.size ≤ o7 ∧ h0.size ≤ o8 ∧ Exa Z h o7 "java/lang/String" ∧ Fld Z h o7 "java/lang/String" "coder" "B" (.int (0 : Int32)) ∧ Fld Z h o7 "java/lang/String" "value" "[B" (.ref o8) ∧ Arv Z h o8 kc9 .byte (2 : Int32) [(.int (ci3.toInt8.toInt32)), (.int (ci4.toInt8.toInt32))] (.int (0 : Int32))) ∨ (∃ (o27 : Addr) (o28 : Addr) (kc29 : ClassId), (¬ ((ci5.toInt8.toInt32) = (46 : Int32))) ∧ (¬ ((ci4.toInt8.toInt32) = (46 : Int32))) ∧ (ci3.toInt8.toInt32) = (46 : Int32) ∧ v = some (.ref o27) ∧ Fr n0 L ∧ Keep h0 h [] ∧ h0.size ≤ o27 ∧ h0.size ≤ o28 ∧ Exa Z h o27 "java/lang/String" ∧ Fld Z h o27 "java/lang/String" "coder" "B" (.int (0 : Int32)) ∧ Fld Z h o27 "java/lang/String" "value" "[B" (.ref o28) ∧ Arv Z h o28 kc29 .byte (1 : Int32) [(.int (ci3.toInt8.toInt32))] (.int (0 : Int32))) ∨ (∃ (o47 : Addr) (o48 : Addr) (kc49 : ClassId), (¬ ((ci5.toInt8.toInt32) = (46 : Int32))) ∧ (¬ ((ci4.toInt8.toInt32) = (46 : Int32))) ∧ (¬ ((ci3.toInt8.toInt32) = (46 : Int32))) ∧ v = some (.ref o47) ∧ Fr n0 L ∧ Keep h0 h [] ∧ o47 < h.size ∧ o48 < h.size ∧ Exa Z h o47 "java/lang/String" ∧ Fld Z h o47 "java/lang/String" "coder" "B" (.int (0 : Int32)) ∧ Fld Z h o47 "java/lang/String" "value" "[B" (.ref o48) ∧ Arv Z h o48 kc49 .byte (0 : Int32) [] (.int (0 : Int32)))
theorem rm5_89 (l : Launch) (Z : State) (a0 : Array Value) (hw : HW Z a0) (ra0 : Addr) (ra1 : Addr) (kc2 : ClassId) (ci3 : Int32) (ci4 : Int32) (ci5 : Int32) (G1 : Int32) (G3 : Value) (h0 : Heap) (n0 : Nat) (OLD : Old Z n0 h0) (E_ra0 : Exa Z h0 ra0 "java/lang/String") (F_coder_ra0 : Fld Z h0 ra0 "java/lang/String" "coder" "B" (.int (0 : Int32))) (F_value_ra0 : Fld Z h0 ra0 "java/lang/String" "value" "[B" (.ref ra1)) (hl_ci3 : ¬ ci3 < 0 ∧ ¬ (255 : Int32) < ci3) (hl_ci4 : ¬ ci4 < 0 ∧ ¬ (255 : Int32) < ci4) (hl_ci5 : ¬ ci5 < 0 ∧ ¬ (255 : Int32) < ci5) (V_ra1 : Arv Z h0 ra1 kc2 .byte (3 : Int32) [(.int (ci3.toInt8.toInt32)), (.int (ci4.toInt8.toInt32)), (.int (ci5.toInt8.toInt32))] (.int (0 : Int32))) (O2 : Sta Z Z.heap "java/lang/String" "COMPACT_STRINGS" "Z" (.int G1)) (P5 : ¬ (G1 = (0 : Int32))) (O4 : Sta Z Z.heap "jdk/internal/util/Preconditions" "SIOOBE_FORMATTER" "Ljava/util/function/BiFunction;" G3) (rG3 : G3.isRef = true) :
    own_CW l Z y13 prog_41_method_5_code 1 (some (.object "java/lang/String")) [] R5_89 #[(.ref ra0)] h0 [] (Q5_89 Z ra0 ra1 kc2 ci3 ci4 ci5 G1 G3 h0 n0) := by
  refine own_entryW (plainFor_of_name pn_4) fun p e s m below meth c s₁ hx hby hml hown hnm hret hlk hZ hh hCH hSf X0 e0 => ?_
  have N0 := Fr.nil n0
  have hS0 : s.Since s.vm h0.size := own_since s _
  have hk0 : h0.size ≤ h0.size := Nat.le_refl _
  have CH0 : CHr Z own_EL s.vm h0 s.vm h0 := CHr.refl hCH
  rw [ef_5_89 m ra0]
  refine og s₁ (mkF m 5 #[vR ra0] [(.int (46 : Int32)), (.ref ra0), (.int (0 : Int32)), (.ref ra0)]) (fun _ k => XS.aloadN X0.here hx rfl (hb hby d5_0) rfl rfl (XS.iconst X0.here hx rfl (hb hby d5_1) (XS.aloadN X0.here hx rfl (hb hby d5_2) rfl rfl (XS.bipush X0.here hx rfl (hb hby d5_3) k)))) ?_
  obtain ⟨cq1, kq1, q1a, q1b, q1c⟩ := isOf hZ e0 E_ra0
  obtain ⟨_, _, ⟨T1, L1, k1, n1⟩, -, X1, ⟨Lc1, hQ1, l1, y1, z1⟩, st1⟩ := X0.virtualBack hx (y := y9) (z := y9) hown (mvT hZ (own_w hw 31)) (mvT hZ (own_w hw 32)) (notFace_of_selects (args := #[]) (mvT hZ (own_w hw 34))) (mvT hZ (own_w hw 34)) (mvT hZ (own_w hw 33)) (by decide) (backOf (W := 2) (rm6_59 l Z a0 hw ra0 ra1 kc2 ci3 ci4 ci5 G1 h0 n0 OLD E_ra0 F_coder_ra0 F_value_ra0 hl_ci3 hl_ci4 hl_ci5 V_ra1 O2 P5) hZ (own_w hw 35) (own_w hw 8) (lb rfl) (lb rfl)) q1a q1c (g := (mkF m 5 #[vR ra0] [(.int (46 : Int32)), (.ref ra0), (.int (0 : Int32)), (.ref ra0)])) rfl (by rw [hml]; rfl) (Steps.refl _) (argsL := [(.int (46 : Int32))]) (rest := [(.int (0 : Int32)), (.ref ra0)]) (lenOf pd_8 rfl) rfl (lb rfl) (hb hby d5_5) (fun _ _ => ⟨rfl, e0, (lb rfl), (lb rfl)⟩)
  dsimp only [Pt.U, Pt.locs, Pt.cells, Pt.slots] at X1 l1 y1 z1 st1 hQ1
  subst l1 y1 z1
  rcases hQ1 with hQ1 | hQ1 | hQ1 | hQ1
  · obtain ⟨hc2, rfl, Nq1, eq1⟩ := hQ1
    have N1 := Fr.app N0 Nq1
    refine ot T1 (mkF m 8 #[vR ra0] [(.int (2 : Int32)), (.int (0 : Int32)), (.ref ra0)]) st1 ?_
    refine og T1 (mkF m 10 #[vR ra0] [(.int (3 : Int32)), (.int (0 : Int32)), (.ref ra0)]) (fun _ k => XS.iconst X1.here hx rfl (hb hby d5_8) (XS.iadd X1.here hx rfl (hb hby d5_9) rfl k)) ?_
    obtain ⟨cq3, kq3, q3a, q3b, q3c⟩ := isOf hZ eq1 E_ra0
    obtain ⟨_, _, ⟨T3, L3, k3, n3⟩, -, X3, ⟨Lc3, hQ3, l3, y3, z3⟩, st3⟩ := X1.virtualBack hx (y := y12) (z := y12) hown (mvT hZ (own_w hw 68)) (mvT hZ (own_w hw 69)) (notFace_of_selects (args := #[]) (mvT hZ (own_w hw 71))) (mvT hZ (own_w hw 71)) (mvT hZ (own_w hw 70)) (by decide) (backOf (W := 0) (rm14_64 l Z a0 hw ra0 ra1 kc2 ci3 ci4 ci5 G1 G3 h0 n0 OLD E_ra0 F_coder_ra0 F_value_ra0 hl_ci3 hl_ci4 hl_ci5 V_ra1 O2 P5 O4 rG3) hZ (own_w hw 72) (own_w hw 8) (lb rfl) (lb rfl)) q3a q3c (g := (mkF m 10 #[vR ra0] [(.int (3 : Int32)), (.int (0 : Int32)), (.ref ra0)])) rfl (by rw [hml]; rfl) (Steps.refl _) (argsL := [(.int (0 : Int32)), (.int (3 : Int32))]) (rest := []) (lenOf pd_11 rfl) rfl (lb rfl) (hb hby d5_10) (fun _ _ => ⟨rfl, eq1, (lb rfl), (lb rfl)⟩)
    dsimp only [Pt.U, Pt.locs, Pt.cells, Pt.slots] at X3 l3 y3 z3 st3 hQ3
    subst l3 y3 z3
    obtain ⟨rfl, Nq3, eq3⟩ := hQ3
    have N3 := Fr.app N1 Nq3
    refine ot T3 (mkF m 13 #[vR ra0] [(.ref ra0)]) st3 ?_
    exact own_leaveW (s := s) (vm0 := s.vm) X3 hS0 hk0 hZ (own_EW hw) eq3 CH0 hh hlk (v := some (.ref ra0)) (fun h => by rw [hret] at h; cases h) (lb rfl) (lb rfl) (by rw [eq3]; exact (Or.inl ⟨hc2, rfl, N3, rfl⟩)) (fun fs hr => retOut X3 hx (t := (.object "java/lang/String")) hret rfl (Or.inr (Or.inr (Or.inr (Or.inr ⟨rfl, rfl, rfl⟩)))) (hb hby d5_13) hr)
  · obtain ⟨hc4, hc5, rfl, Nq1, eq1⟩ := hQ1
    have N1 := Fr.app N0 Nq1
    refine ot T1 (mkF m 8 #[vR ra0] [(.int (1 : Int32)), (.int (0 : Int32)), (.ref ra0)]) st1 ?_
    refine og T1 (mkF m 10 #[vR ra0] [(.int (2 : Int32)), (.int (0 : Int32)), (.ref ra0)]) (fun _ k => XS.iconst X1.here hx rfl (hb hby d5_8) (XS.iadd X1.here hx rfl (hb hby d5_9) rfl k)) ?_
    obtain ⟨cq6, kq6, q6a, q6b, q6c⟩ := isOf hZ eq1 E_ra0
    obtain ⟨_, _, ⟨T6, L6, k6, n6⟩, -, X6, ⟨Lc6, hQ6, l6, y6, z6⟩, st6⟩ := X1.virtualBack hx (y := y12) (z := y12) hown (mvT hZ (own_w hw 68)) (mvT hZ (own_w hw 69)) (notFace_of_selects (args := #[]) (mvT hZ (own_w hw 71))) (mvT hZ (own_w hw 71)) (mvT hZ (own_w hw 70)) (by decide) (backOf (W := 0) (rm14_67 l Z a0 hw ra0 ra1 kc2 ci3 ci4 ci5 G1 G3 h0 n0 OLD E_ra0 F_coder_ra0 F_value_ra0 hl_ci3 hl_ci4 hl_ci5 V_ra1 O2 P5 O4 rG3) hZ (own_w hw 72) (own_w hw 8) (lb rfl) (lb rfl)) q6a q6c (g := (mkF m 10 #[vR ra0] [(.int (2 : Int32)), (.int (0 : Int32)), (.ref ra0)])) rfl (by rw [hml]; rfl) (Steps.refl _) (argsL := [(.int (0 : Int32)), (.int (2 : Int32))]) (rest := []) (lenOf pd_11 rfl) rfl (lb rfl) (hb hby d5_10) (fun _ _ => ⟨rfl, eq1, (lb rfl), (lb rfl)⟩)
    dsimp only [Pt.U, Pt.locs, Pt.cells, Pt.slots] at X6 l6 y6 z6 st6 hQ6
    subst l6 y6 z6
    obtain ⟨o7, o8, kc9, rfl, Nq6, K6, f10, f11, f12, f13, f14, f15⟩ := hQ6
    have N6 := Fr.app N1 Nq6
    have g16 : n0 ≤ o7 := Nat.le_trans (own_osz OLD) f10
    have z17 : h0.size ≤ o7 := Nat.le_trans (Nat.le_refl _) f10
    have g18 : n0 ≤ o8 := Nat.le_trans (own_osz OLD) f11
    have z19 : h0.size ≤ o8 := Nat.le_trans (Nat.le_refl _) f11
    have ch20 := CHr.keep K6 all0 CH0.1
    have CH21 := CHr.trans CH0 ch20
    refine ot T6 (mkF m 13 #[vR ra0] [(.ref o7)]) st6 ?_
    have KEEP := ((Keep.refl h0 []).trans K6 all0)
    have F22 := (Nat.le_trans hk0 K6.1)
    exact own_leaveW (s := s) (vm0 := s.vm) X6 hS0 F22 hZ (own_EW hw) rfl CH21 hh hlk (v := some (.ref o7)) (fun h => by rw [hret] at h; cases h) (lb rfl) (lb rfl) (by exact (Or.inr (Or.inl ⟨o7, o8, kc9, hc4, hc5, rfl, N6, KEEP, z17, z19, f12, f13, f14, f15⟩))) (fun fs hr => retOut X6 hx (t := (.object "java/lang/String")) hret rfl (Or.inr (Or.inr (Or.inr (Or.inr ⟨rfl, rfl, rfl⟩)))) (hb hby d5_13) hr)
  · obtain ⟨hc23, hc24, hc25, rfl, Nq1, eq1⟩ := hQ1
    have N1 := Fr.app N0 Nq1
    refine ot T1 (mkF m 8 #[vR ra0] [(.int (0 : Int32)), (.int (0 : Int32)), (.ref ra0)]) st1 ?_
    refine og T1 (mkF m 10 #[vR ra0] [(.int (1 : Int32)), (.int (0 : Int32)), (.ref ra0)]) (fun _ k => XS.iconst X1.here hx rfl (hb hby d5_8) (XS.iadd X1.here hx rfl (hb hby d5_9) rfl k)) ?_
    obtain ⟨cq26, kq26, q26a, q26b, q26c⟩ := isOf hZ eq1 E_ra0
    obtain ⟨_, _, ⟨T26, L26, k26, n26⟩, -, X26, ⟨Lc26, hQ26, l26, y26, z26⟩, st26⟩ := X1.virtualBack hx (y := y12) (z := y12) hown (mvT hZ (own_w hw 68)) (mvT hZ (own_w hw 69)) (notFace_of_selects (args := #[]) (mvT hZ (own_w hw 71))) (mvT hZ (own_w hw 71)) (mvT hZ (own_w hw 70)) (by decide) (backOf (W := 0) (rm14_76 l Z a0 hw ra0 ra1 kc2 ci3 ci4 ci5 G1 G3 h0 n0 OLD E_ra0 F_coder_ra0 F_value_ra0 hl_ci3 hl_ci4 hl_ci5 V_ra1 O2 P5 O4 rG3) hZ (own_w hw 72) (own_w hw 8) (lb rfl) (lb rfl)) q26a q26c (g := (mkF m 10 #[vR ra0] [(.int (1 : Int32)), (.int (0 : Int32)), (.ref ra0)])) rfl (by rw [hml]; rfl) (Steps.refl _) (argsL := [(.int (0 : Int32)), (.int (1 : Int32))]) (rest := []) (lenOf pd_11 rfl) rfl (lb rfl) (hb hby d5_10) (fun _ _ => ⟨rfl, eq1, (lb rfl), (lb rfl)⟩)
    dsimp only [Pt.U, Pt.locs, Pt.cells, Pt.slots] at X26 l26 y26 z26 st26 hQ26
    subst l26 y26 z26
    obtain ⟨o27, o28, kc29, rfl, Nq26, K26, f30, f31, f32, f33, f34, f35⟩ := hQ26
    have N26 := Fr.app N1 Nq26
    have g36 : n0 ≤ o27 := Nat.le_trans (own_osz OLD) f30
    have z37 : h0.size ≤ o27 := Nat.le_trans (Nat.le_refl _) f30
    have g38 : n0 ≤ o28 := Nat.le_trans (own_osz OLD) f31
    have z39 : h0.size ≤ o28 := Nat.le_trans (Nat.le_refl _) f31
    have ch40 := CHr.keep K26 all0 CH0.1
    have CH41 := CHr.trans CH0 ch40
    refine ot T26 (mkF m 13 #[vR ra0] [(.ref o27)]) st26 ?_
    have KEEP := ((Keep.refl h0 []).trans K26 all0)
    have F42 := (Nat.le_trans hk0 K26.1)
    exact own_leaveW (s := s) (vm0 := s.vm) X26 hS0 F42 hZ (own_EW hw) rfl CH41 hh hlk (v := some (.ref o27)) (fun h => by rw [hret] at h; cases h) (lb rfl) (lb rfl) (by exact (Or.inr (Or.inr (Or.inl ⟨o27, o28, kc29, hc23, hc24, hc25, rfl, N26, KEEP, z37, z39, f32, f33, f34, f35⟩)))) (fun fs hr => retOut X26 hx (t := (.object "java/lang/String")) hret rfl (Or.inr (Or.inr (Or.inr (Or.inr ⟨rfl, rfl, rfl⟩)))) (hb hby d5_13) hr)
  · obtain ⟨hc43, hc44, hc45, rfl, Nq1, eq1⟩ := hQ1
    have N1 := Fr.app N0 Nq1
    refine ot T1 (mkF m 8 #[vR ra0] [(.int (-1 : Int32)), (.int (0 : Int32)), (.ref ra0)]) st1 ?_
    refine og T1 (mkF m 10 #[vR ra0] [(.int (0 : Int32)), (.int (0 : Int32)), (.ref ra0)]) (fun _ k => XS.iconst X1.here hx rfl (hb hby d5_8) (XS.iadd X1.here hx rfl (hb hby d5_9) rfl k)) ?_
    obtain ⟨cq46, kq46, q46a, q46b, q46c⟩ := isOf hZ eq1 E_ra0
    obtain ⟨_, _, ⟨T46, L46, k46, n46⟩, -, X46, hs46, hg46, ⟨Lc46, hQ46, l46, y46, z46, ch46⟩, st46⟩ := X1.virtualBackS hx (y := y12) (z := y12) hown (mvT hZ (own_w hw 68)) (mvT hZ (own_w hw 69)) (notFace_of_selects (args := #[]) (mvT hZ (own_w hw 71))) (mvT hZ (own_w hw 71)) (mvT hZ (own_w hw 70)) (by decide) (own_backSH (W := 0) (rm14_88 l Z a0 hw ra0 ra1 kc2 ci3 ci4 ci5 G1 G3 h0 n0 OLD E_ra0 F_coder_ra0 F_value_ra0 hl_ci3 hl_ci4 hl_ci5 V_ra1 O2 P5 O4 rG3) hZ (own_w hw 72) (own_w hw 8) (lb rfl) (lb rfl) (own_EW hw) CH0.1 all0) q46a q46c (g := (mkF m 10 #[vR ra0] [(.int (0 : Int32)), (.int (0 : Int32)), (.ref ra0)])) rfl (by rw [hml]; rfl) (Steps.refl _) (argsL := [(.int (0 : Int32)), (.int (0 : Int32))]) (rest := []) (lenOf pd_11 rfl) rfl (lb rfl) (hb hby d5_10) (fun _ _ => ⟨rfl, eq1, (lb rfl), (lb rfl)⟩)
    dsimp only [Pt.U, Pt.locs, Pt.cells, Pt.slots] at X46 l46 y46 z46 st46 hQ46 hs46 hg46 ch46
    subst l46 y46 z46
    replace X46 := own_reb X46
    obtain ⟨hZ46, hS46, hown46⟩ := own_after hZ hS0 eq1 hk0 hs46 hg46 hown
    obtain ⟨o47, o48, kc49, rfl, Nq46, K46, f50, f51, f52, f53, f54, f55⟩ := hQ46
    have N46 := Fr.app N1 Nq46
    have CH56 := CHr.trans CH0 ch46
    refine ot T46 (mkF m 13 #[vR ra0] [(.ref o47)]) st46 ?_
    have KEEP := ((Keep.refl h0 []).trans K46 all0)
    exact own_leaveW (s := s) (vm0 := T46.vm) X46 hS46 (Nat.le_refl _) hZ46 (own_EW hw) rfl CH56 hh hlk (v := some (.ref o47)) (fun h => by rw [hret] at h; cases h) (lb rfl) (lb rfl) (by exact (Or.inr (Or.inr (Or.inr ⟨o47, o48, kc49, hc43, hc44, hc45, rfl, N46, KEEP, f50, f51, f52, f53, f54, f55⟩)))) (fun fs hr => retOut X46 hx (t := (.object "java/lang/String")) hret rfl (Or.inr (Or.inr (Or.inr (Or.inr ⟨rfl, rfl, rfl⟩)))) (hb hby d5_13) hr)
abbrev R10_93 : Room := { frames := 0, cells := 0, slots := 0, locals := 0 }
def Q10_93 (Z : State) (ra0 : Addr) (ra1 : Addr) (kc2 : ClassId) (ci3 : Int32) (ci4 : Int32) (ci5 : Int32) (ci6 : Int32) (G1 : Int32) (h0 : Heap) (n0 : Nat) (v : Option Value) (h : Heap) (L : List Loc) : Prop := (v = some (.int (1 : Int32)) ∧ Fr n0 L ∧ h = h0)
theorem rm10_93 (l : Launch) (Z : State) (a0 : Array Value) (hw : HW Z a0) (ra0 : Addr) (ra1 : Addr) (kc2 : ClassId) (ci3 : Int32) (ci4 : Int32) (ci5 : Int32) (ci6 : Int32) (G1 : Int32) (h0 : Heap) (n0 : Nat) (OLD : Old Z n0 h0) (E_ra0 : Exa Z h0 ra0 "java/lang/String") (F_coder_ra0 : Fld Z h0 ra0 "java/lang/String" "coder" "B" (.int (0 : Int32))) (F_value_ra0 : Fld Z h0 ra0 "java/lang/String" "value" "[B" (.ref ra1)) (hl_ci3 : ¬ ci3 < 0 ∧ ¬ (255 : Int32) < ci3) (hl_ci4 : ¬ ci4 < 0 ∧ ¬ (255 : Int32) < ci4) (hl_ci5 : ¬ ci5 < 0 ∧ ¬ (255 : Int32) < ci5) (hl_ci6 : ¬ ci6 < 0 ∧ ¬ (255 : Int32) < ci6) (V_ra1 : Arv Z h0 ra1 kc2 .byte (4 : Int32) [(.int (ci3.toInt8.toInt32)), (.int (ci4.toInt8.toInt32)), (.int (ci5.toInt8.toInt32)), (.int (ci6.toInt8.toInt32))] (.int (0 : Int32))) (O2 : Sta Z Z.heap "java/lang/String" "COMPACT_STRINGS" "Z" (.int G1)) (P5 : ¬ (G1 = (0 : Int32))) :
    own_CN l Z y4 jdk_42_method_154_code 1 (some .boolean) [] R10_93 #[(.ref ra0)] h0 (Q10_93 Z ra0 ra1 kc2 ci3 ci4 ci5 ci6 G1 h0 n0) := by
  refine own_entryN (plainFor_of_name pn_1) fun p e s m below meth c s₁ hx hby hml hown hnm hret hlk hZ hh X0 e0 => ?_
  have N0 := Fr.nil n0
  rw [ef_10_93 m ra0]
  obtain ⟨T1, X1, e1, st1⟩ := getS2 X0 hx hZ hown (host := "") (Or.inl (own_w hw 46)) Via.refl e0 (O2.ext OLD.2) (g := (mkF m 0 #[vR ra0] [])) rfl (hb hby d10_0)
  refine og T1 (mkF m 3 #[vR ra0] [(.int G1)]) st1 ?_
  refine og T1 (mkF m 7 #[vR ra0] [(.ref ra0)]) (fun _ k => XS.ifNo X1.here hx rfl (hb hby d10_3) rfl ((if0 _ _).trans (feq P5).1) (XS.aloadN X1.here hx rfl (hb hby d10_6) rfl rfl k)) ?_
  obtain ⟨T2, X2, e2, st2⟩ := getF X1 hx hZ hown (host := "") (Or.inl (own_w hw 26)) Via.refl e1 F_coder_ra0 (g := (mkF m 7 #[vR ra0] [(.ref ra0)])) rfl rfl (hb hby d10_7)
  refine og T2 (mkF m 10 #[vR ra0] [(.int (0 : Int32))]) st2 ?_
  refine og T2 (mkF m 18 #[vR ra0] [(.int (1 : Int32))]) (fun _ k => XS.ifNo X2.here hx rfl (hb hby d10_10) rfl ((if0 _ _).trans (teq (by decide : (0 : Int32) = (0 : Int32))).2) (XS.iconst X2.here hx rfl (hb hby d10_13) (XS.goto X2.here hx rfl (pc0 := 14) (pc' := 18) rfl (hb hby d10_14) (by decide) (by decide) k))) ?_
  exact own_leaveN X2 hlk (v := some (.int (nar .boolean (1 : Int32)))) (fun h => by rw [hret] at h; cases h) (lb rfl) (lb rfl) (by rw [e2]; exact ⟨rfl, N0, rfl⟩) (fun fs hr => retN X2 hx (t := .boolean) hret (by simp) (hb hby d10_18) hr)
abbrev R13_95 : Room := { frames := 0, cells := 0, slots := 0, locals := 0 }
def Q13_95 (Z : State)  (h0 : Heap) (n0 : Nat) (v : Option Value) (h : Heap) (L : List Loc) : Prop := (v = some (.int (3 : Int32)) ∧ Fr n0 L ∧ h = h0)
theorem rm13_95 (l : Launch) (Z : State) (a0 : Array Value) (hw : HW Z a0)  (h0 : Heap) (n0 : Nat) (OLD : Old Z n0 h0) :
    own_CN l Z y6 jdk_29_method_69_code 2 (some .int) [] R13_95 #[(.int (3 : Int32)), (.int (3 : Int32))] h0 (Q13_95 Z  h0 n0) := by
  refine own_entryN (Jvm.Free.JP.mathPlain rfl (by decide +kernel)) fun p e s m below meth c s₁ hx hby hml hown hnm hret hlk hZ hh X0 e0 => ?_
  have N0 := Fr.nil n0
  rw [ef_13_95 m ]
  refine og s₁ (mkF m 10 #[vI (3 : Int32), vI (3 : Int32)] [(.int (3 : Int32))]) (fun _ k => XS.iloadN X0.here hx rfl (hb hby d13_0) rfl (XS.iloadN X0.here hx rfl (hb hby d13_1) rfl (XS.icmpNo X0.here hx rfl (hb hby d13_2) rfl (flt (by decide : ¬ ((3 : Int32) < (3 : Int32)))).2.2.1 (XS.iloadN X0.here hx rfl (hb hby d13_5) rfl (XS.goto X0.here hx rfl (pc0 := 6) (pc' := 10) rfl (hb hby d13_6) (by decide) (by decide) k))))) ?_
  exact own_leaveN X0 hlk (v := some (.int (3 : Int32))) (fun h => by rw [hret] at h; cases h) (lb rfl) (lb rfl) (by rw [e0]; exact ⟨rfl, N0, rfl⟩) (fun fs hr => retI X0 hx hret (hb hby d13_10) hr)
abbrev R11_94 : Room := { frames := 1, cells := 0, slots := 0, locals := 13 }
def Q11_94 (Z : State) (ra0 : Addr) (kc1 : ClassId) (ci2 : Int32) (ci3 : Int32) (ci4 : Int32) (ci5 : Int32) (h0 : Heap) (n0 : Nat) (v : Option Value) (h : Heap) (L : List Loc) : Prop := ((ci5.toInt8.toInt32) = (46 : Int32) ∧ v = some (.int (3 : Int32)) ∧ Fr n0 L ∧ h = h0) ∨ ((¬ ((ci5.toInt8.toInt32) = (46 : Int32))) ∧ (ci4.toInt8.toInt32) = (46 : Int32) ∧ v = some (.int (2 : Int32)) ∧ Fr n0 L ∧ h = h0) ∨ ((¬ ((ci5.toInt8.toInt32) = (46 : Int32))) ∧ (¬ ((ci4.toInt8.toInt32) = (46 : Int32))) ∧ (ci3.toInt8.toInt32) = (46 : Int32) ∧ v = some (.int (1 : Int32)) ∧ Fr n0 L ∧ h = h0) ∨ ((¬ ((ci5.toInt8.toInt32) = (46 : Int32))) ∧ (¬ ((ci4.toInt8.toInt32) = (46 : Int32))) ∧ (¬ ((ci3.toInt8.toInt32) = (46 : Int32))) ∧ (ci2.toInt8.toInt32) = (46 : Int32) ∧ v = some (.int (0 : Int32)) ∧ Fr n0 L ∧ h = h0) ∨ ((¬ ((ci5.toInt8.toInt32) = (46 : Int32))) ∧ (¬ ((ci4.toInt8.toInt32) = (46 : Int32))) ∧ (¬ ((ci3.toInt8.toInt32) = (46 : Int32))) ∧ (¬ ((ci2.toInt8.toInt32) = (46 : Int32))) ∧ v = some (.int (-1 : Int32)) ∧ Fr n0 L ∧ h = h0)
theorem rm11_94 (l : Launch) (Z : State) (a0 : Array Value) (hw : HW Z a0) (ra0 : Addr) (kc1 : ClassId) (ci2 : Int32) (ci3 : Int32) (ci4 : Int32) (ci5 : Int32) (h0 : Heap) (n0 : Nat) (OLD : Old Z n0 h0) (hl_ci2 : ¬ ci2 < 0 ∧ ¬ (255 : Int32) < ci2) (hl_ci3 : ¬ ci3 < 0 ∧ ¬ (255 : Int32) < ci3) (hl_ci4 : ¬ ci4 < 0 ∧ ¬ (255 : Int32) < ci4) (hl_ci5 : ¬ ci5 < 0 ∧ ¬ (255 : Int32) < ci5) (V_ra0 : Arv Z h0 ra0 kc1 .byte (4 : Int32) [(.int (ci2.toInt8.toInt32)), (.int (ci3.toInt8.toInt32)), (.int (ci4.toInt8.toInt32)), (.int (ci5.toInt8.toInt32))] (.int (0 : Int32))) :
    own_CN l Z y7 jdk_43_method_27_code 4 (some .int) [] R11_94 #[(.ref ra0), (.int (46 : Int32)), (.int (3 : Int32))] h0 (Q11_94 Z ra0 kc1 ci2 ci3 ci4 ci5 h0 n0) := by
  refine own_entryN (plainFor_of_name pn_2) fun p e s m below meth c s₁ hx hby hml hown hnm hret hlk hZ hh X0 e0 => ?_
  have N0 := Fr.nil n0
  rw [ef_11_94 m ra0]
  refine og s₁ (mkF m 1 #[vR ra0, vI (46 : Int32), vI (3 : Int32), vU] [(.int (46 : Int32))]) (fun _ k => XS.iloadN X0.here hx rfl (hb hby d11_0) rfl k) ?_
  obtain ⟨_, _, ⟨T1, L1, k1, n1⟩, -, X1, ⟨Lc1, hQ1, l1, y1, z1⟩, st1⟩ := Jvm.LawKit.callS X0 hx (y := y5) hown (mvT hZ (own_w hw 61)) (mvT hZ (own_w hw 62)) (mvT hZ (own_w hw 59)) (mvT hZ (own_w hw 63)) (by decide) (backOf (W := 0) (rm12_12 l Z a0 hw  h0 n0 OLD ) hZ (own_w hw 63) (own_w hw 59) (lb rfl) (lb rfl)) (g := (mkF m 1 #[vR ra0, vI (46 : Int32), vI (3 : Int32), vU] [(.int (46 : Int32))])) rfl (by rw [hml]; rfl) (argsL := [(.int (46 : Int32))]) (rest := []) (lenOf pd_5 rfl) rfl (lb rfl) (hb hby d11_1) (fun _ _ => ⟨rfl, e0, (lb rfl), (lb rfl)⟩)
  dsimp only [Pt.U, Pt.locs, Pt.cells, Pt.slots] at X1 l1 y1 z1 st1 hQ1
  subst l1 y1 z1
  obtain ⟨rfl, Nq1, eq1⟩ := hQ1
  have N1 := Fr.app N0 Nq1
  refine og T1 (mkF m 4 #[vR ra0, vI (46 : Int32), vI (3 : Int32), vU] [(.int (1 : Int32))]) st1 ?_
  refine og T1 (mkF m 11 #[vR ra0, vI (46 : Int32), vI (3 : Int32), vU] [(.ref ra0), (.int (3 : Int32))]) (fun _ k => XS.ifYes X1.here hx rfl (pc0 := 4) (pc' := 9) rfl (hb hby d11_4) rfl ((if0 _ _).trans (feq (by decide : ¬ ((1 : Int32) = (0 : Int32)))).2) (by decide) (by decide) (XS.iloadN X1.here hx rfl (hb hby d11_9) rfl (XS.aloadN X1.here hx rfl (hb hby d11_10) rfl rfl k))) ?_
  obtain ⟨cl2, Ar2, -, Sr2, Nr2, -, -⟩ := id V_ra0
  refine og T1 (mkF m 12 #[vR ra0, vI (46 : Int32), vI (3 : Int32), vU] [(.int (4 : Int32)), (.int (3 : Int32))]) (fun t k => X1.arraylength hx (by rw [eq1]; exact Ar2.1) (State.isArrayOf_alike hZ.alike Ar2.2.1) (g := (mkF m 11 #[vR ra0, vI (46 : Int32), vI (3 : Int32), vU] [(.ref ra0), (.int (3 : Int32))])) rfl rfl (hb hby d11_11) t (by rw [len_of Sr2 Nr2]; exact k)) ?_
  refine og T1 (mkF m 14 #[vR ra0, vI (46 : Int32), vI (3 : Int32), vU] [(.int (3 : Int32)), (.int (3 : Int32))]) (fun _ k => XS.iconst X1.here hx rfl (hb hby d11_12) (XS.isub X1.here hx rfl (hb hby d11_13) rfl k)) ?_
  obtain ⟨_, _, ⟨T3, L3, k3, n3⟩, -, X3, ⟨Lc3, hQ3, l3, y3, z3⟩, st3⟩ := Jvm.LawKit.callS X1 hx (y := y6) hown (mvT hZ (own_w hw 64)) (mvT hZ (own_w hw 65)) (mvT hZ (own_w hw 66)) (mvT hZ (own_w hw 67)) (by decide) (backOf (W := 0) (rm13_95 l Z a0 hw  h0 n0 OLD ) hZ (own_w hw 67) (own_w hw 66) (lb rfl) (lb rfl)) (g := (mkF m 14 #[vR ra0, vI (46 : Int32), vI (3 : Int32), vU] [(.int (3 : Int32)), (.int (3 : Int32))])) rfl (by rw [hml]; rfl) (argsL := [(.int (3 : Int32)), (.int (3 : Int32))]) (rest := []) (lenOf pd_6 rfl) rfl (lb rfl) (hb hby d11_14) (fun _ _ => ⟨rfl, eq1, (lb rfl), (lb rfl)⟩)
  dsimp only [Pt.U, Pt.locs, Pt.cells, Pt.slots] at X3 l3 y3 z3 st3 hQ3
  subst l3 y3 z3
  obtain ⟨rfl, Nq3, eq3⟩ := hQ3
  have N3 := Fr.app N1 Nq3
  refine og T3 (mkF m 17 #[vR ra0, vI (46 : Int32), vI (3 : Int32), vU] [(.int (3 : Int32))]) st3 ?_
  refine og T3 (mkF m 24 #[vR ra0, vI (46 : Int32), vI (3 : Int32), vI (3 : Int32)] [(.int (3 : Int32)), (.ref ra0)]) (fun _ k => XS.istoreN X3.here hx rfl (hb hby d11_17) rfl (l' := #[vR ra0, vI (46 : Int32), vI (3 : Int32), vI (3 : Int32)]) rfl (XS.iloadN X3.here hx rfl (hb hby d11_18) rfl (XS.ifNo X3.here hx rfl (hb hby d11_19) rfl ((if0 _ _).trans (flt (by decide : ¬ ((3 : Int32) < (0 : Int32)))).1) (XS.aloadN X3.here hx rfl (hb hby d11_22) rfl rfl (XS.iloadN X3.here hx rfl (hb hby d11_23) rfl k))))) ?_
  obtain ⟨cl4, Ar4, qr4, Sr4, Nr4, Hr4, Gr4⟩ := id V_ra0
  have hi4 : ¬ ((3 : Int32) < 0 ∨ cl4.slots.size ≤ ((3 : Int32)).toNatClampNeg) := inb_of Sr4 ⟨by decide, by decide⟩
  refine og T3 (mkF m 25 #[vR ra0, vI (46 : Int32), vI (3 : Int32), vI (3 : Int32)] [(.int (ci5.toInt8.toInt32))]) (fun t k => X3.baloadBytes hx (j := (3 : Int32)) (v := (.int (ci5.toInt8.toInt32))) (by rw [eq3]; exact Ar4.1) (State.isArrayOf_alike hZ.alike Ar4.2.1) Ar4.2.2 hi4 (Has.at Hr4 hi4 rfl) (g := (mkF m 24 #[vR ra0, vI (46 : Int32), vI (3 : Int32), vI (3 : Int32)] [(.int (3 : Int32)), (.ref ra0)])) rfl rfl (hb hby d11_24) t k) ?_
  refine og T3 (mkF m 27 #[vR ra0, vI (46 : Int32), vI (3 : Int32), vI (3 : Int32)] [(.int (46 : Int32)), (.int (ci5.toInt8.toInt32))]) (fun _ k => XS.iloadN X3.here hx rfl (hb hby d11_25) rfl (XS.i2b X3.here hx rfl (hb hby d11_26) rfl k)) ?_
  by_cases hc5 : (ci5.toInt8.toInt32) = (46 : Int32)
  · refine og T3 (mkF m 31 #[vR ra0, vI (46 : Int32), vI (3 : Int32), vI (3 : Int32)] [(.int (3 : Int32))]) (fun _ k => XS.icmpNo X3.here hx rfl (hb hby d11_27) rfl (teq hc5).2 (XS.iloadN X3.here hx rfl (hb hby d11_30) rfl k)) ?_
    exact own_leaveN X3 hlk (v := some (.int (3 : Int32))) (fun h => by rw [hret] at h; cases h) (lb rfl) (lb rfl) (by rw [eq3]; exact (Or.inl ⟨hc5, rfl, N3, rfl⟩)) (fun fs hr => retI X3 hx hret (hb hby d11_31) hr)
  · refine og T3 (mkF m 24 #[vR ra0, vI (46 : Int32), vI (3 : Int32), vI (2 : Int32)] [(.int (2 : Int32)), (.ref ra0)]) (fun _ k => XS.icmpYes X3.here hx rfl (pc0 := 27) (pc' := 32) rfl (hb hby d11_27) rfl (feq hc5).2 (by decide) (by decide) (XS.iinc X3.here hx rfl (hb hby d11_32) rfl (l' := #[vR ra0, vI (46 : Int32), vI (3 : Int32), vI (2 : Int32)]) rfl (XS.goto X3.here hx rfl (pc0 := 35) (pc' := 18) rfl (hb hby d11_35) (by decide) (by decide) (XS.iloadN X3.here hx rfl (hb hby d11_18) rfl (XS.ifNo X3.here hx rfl (hb hby d11_19) rfl ((if0 _ _).trans (flt (by decide : ¬ ((2 : Int32) < (0 : Int32)))).1) (XS.aloadN X3.here hx rfl (hb hby d11_22) rfl rfl (XS.iloadN X3.here hx rfl (hb hby d11_23) rfl k))))))) ?_
    obtain ⟨cl6, Ar6, qr6, Sr6, Nr6, Hr6, Gr6⟩ := id V_ra0
    have hi6 : ¬ ((2 : Int32) < 0 ∨ cl6.slots.size ≤ ((2 : Int32)).toNatClampNeg) := inb_of Sr6 ⟨by decide, by decide⟩
    refine og T3 (mkF m 25 #[vR ra0, vI (46 : Int32), vI (3 : Int32), vI (2 : Int32)] [(.int (ci4.toInt8.toInt32))]) (fun t k => X3.baloadBytes hx (j := (2 : Int32)) (v := (.int (ci4.toInt8.toInt32))) (by rw [eq3]; exact Ar6.1) (State.isArrayOf_alike hZ.alike Ar6.2.1) Ar6.2.2 hi6 (Has.at Hr6 hi6 rfl) (g := (mkF m 24 #[vR ra0, vI (46 : Int32), vI (3 : Int32), vI (2 : Int32)] [(.int (2 : Int32)), (.ref ra0)])) rfl rfl (hb hby d11_24) t k) ?_
    refine og T3 (mkF m 27 #[vR ra0, vI (46 : Int32), vI (3 : Int32), vI (2 : Int32)] [(.int (46 : Int32)), (.int (ci4.toInt8.toInt32))]) (fun _ k => XS.iloadN X3.here hx rfl (hb hby d11_25) rfl (XS.i2b X3.here hx rfl (hb hby d11_26) rfl k)) ?_
    by_cases hc7 : (ci4.toInt8.toInt32) = (46 : Int32)
    · refine og T3 (mkF m 31 #[vR ra0, vI (46 : Int32), vI (3 : Int32), vI (2 : Int32)] [(.int (2 : Int32))]) (fun _ k => XS.icmpNo X3.here hx rfl (hb hby d11_27) rfl (teq hc7).2 (XS.iloadN X3.here hx rfl (hb hby d11_30) rfl k)) ?_
      exact own_leaveN X3 hlk (v := some (.int (2 : Int32))) (fun h => by rw [hret] at h; cases h) (lb rfl) (lb rfl) (by rw [eq3]; exact (Or.inr (Or.inl ⟨hc5, hc7, rfl, N3, rfl⟩))) (fun fs hr => retI X3 hx hret (hb hby d11_31) hr)
    · refine og T3 (mkF m 24 #[vR ra0, vI (46 : Int32), vI (3 : Int32), vI (1 : Int32)] [(.int (1 : Int32)), (.ref ra0)]) (fun _ k => XS.icmpYes X3.here hx rfl (pc0 := 27) (pc' := 32) rfl (hb hby d11_27) rfl (feq hc7).2 (by decide) (by decide) (XS.iinc X3.here hx rfl (hb hby d11_32) rfl (l' := #[vR ra0, vI (46 : Int32), vI (3 : Int32), vI (1 : Int32)]) rfl (XS.goto X3.here hx rfl (pc0 := 35) (pc' := 18) rfl (hb hby d11_35) (by decide) (by decide) (XS.iloadN X3.here hx rfl (hb hby d11_18) rfl (XS.ifNo X3.here hx rfl (hb hby d11_19) rfl ((if0 _ _).trans (flt (by decide : ¬ ((1 : Int32) < (0 : Int32)))).1) (XS.aloadN X3.here hx rfl (hb hby d11_22) rfl rfl (XS.iloadN X3.here hx rfl (hb hby d11_23) rfl k))))))) ?_
      obtain ⟨cl8, Ar8, qr8, Sr8, Nr8, Hr8, Gr8⟩ := id V_ra0
      have hi8 : ¬ ((1 : Int32) < 0 ∨ cl8.slots.size ≤ ((1 : Int32)).toNatClampNeg) := inb_of Sr8 ⟨by decide, by decide⟩
      refine og T3 (mkF m 25 #[vR ra0, vI (46 : Int32), vI (3 : Int32), vI (1 : Int32)] [(.int (ci3.toInt8.toInt32))]) (fun t k => X3.baloadBytes hx (j := (1 : Int32)) (v := (.int (ci3.toInt8.toInt32))) (by rw [eq3]; exact Ar8.1) (State.isArrayOf_alike hZ.alike Ar8.2.1) Ar8.2.2 hi8 (Has.at Hr8 hi8 rfl) (g := (mkF m 24 #[vR ra0, vI (46 : Int32), vI (3 : Int32), vI (1 : Int32)] [(.int (1 : Int32)), (.ref ra0)])) rfl rfl (hb hby d11_24) t k) ?_
      refine og T3 (mkF m 27 #[vR ra0, vI (46 : Int32), vI (3 : Int32), vI (1 : Int32)] [(.int (46 : Int32)), (.int (ci3.toInt8.toInt32))]) (fun _ k => XS.iloadN X3.here hx rfl (hb hby d11_25) rfl (XS.i2b X3.here hx rfl (hb hby d11_26) rfl k)) ?_
      by_cases hc9 : (ci3.toInt8.toInt32) = (46 : Int32)
      · refine og T3 (mkF m 31 #[vR ra0, vI (46 : Int32), vI (3 : Int32), vI (1 : Int32)] [(.int (1 : Int32))]) (fun _ k => XS.icmpNo X3.here hx rfl (hb hby d11_27) rfl (teq hc9).2 (XS.iloadN X3.here hx rfl (hb hby d11_30) rfl k)) ?_
        exact own_leaveN X3 hlk (v := some (.int (1 : Int32))) (fun h => by rw [hret] at h; cases h) (lb rfl) (lb rfl) (by rw [eq3]; exact (Or.inr (Or.inr (Or.inl ⟨hc5, hc7, hc9, rfl, N3, rfl⟩)))) (fun fs hr => retI X3 hx hret (hb hby d11_31) hr)
      · refine og T3 (mkF m 24 #[vR ra0, vI (46 : Int32), vI (3 : Int32), vI (0 : Int32)] [(.int (0 : Int32)), (.ref ra0)]) (fun _ k => XS.icmpYes X3.here hx rfl (pc0 := 27) (pc' := 32) rfl (hb hby d11_27) rfl (feq hc9).2 (by decide) (by decide) (XS.iinc X3.here hx rfl (hb hby d11_32) rfl (l' := #[vR ra0, vI (46 : Int32), vI (3 : Int32), vI (0 : Int32)]) rfl (XS.goto X3.here hx rfl (pc0 := 35) (pc' := 18) rfl (hb hby d11_35) (by decide) (by decide) (XS.iloadN X3.here hx rfl (hb hby d11_18) rfl (XS.ifNo X3.here hx rfl (hb hby d11_19) rfl ((if0 _ _).trans (flt (by decide : ¬ ((0 : Int32) < (0 : Int32)))).1) (XS.aloadN X3.here hx rfl (hb hby d11_22) rfl rfl (XS.iloadN X3.here hx rfl (hb hby d11_23) rfl k))))))) ?_
        obtain ⟨cl10, Ar10, qr10, Sr10, Nr10, Hr10, Gr10⟩ := id V_ra0
        have hi10 : ¬ ((0 : Int32) < 0 ∨ cl10.slots.size ≤ ((0 : Int32)).toNatClampNeg) := inb_of Sr10 ⟨by decide, by decide⟩
        refine og T3 (mkF m 25 #[vR ra0, vI (46 : Int32), vI (3 : Int32), vI (0 : Int32)] [(.int (ci2.toInt8.toInt32))]) (fun t k => X3.baloadBytes hx (j := (0 : Int32)) (v := (.int (ci2.toInt8.toInt32))) (by rw [eq3]; exact Ar10.1) (State.isArrayOf_alike hZ.alike Ar10.2.1) Ar10.2.2 hi10 (Has.at Hr10 hi10 rfl) (g := (mkF m 24 #[vR ra0, vI (46 : Int32), vI (3 : Int32), vI (0 : Int32)] [(.int (0 : Int32)), (.ref ra0)])) rfl rfl (hb hby d11_24) t k) ?_
        refine og T3 (mkF m 27 #[vR ra0, vI (46 : Int32), vI (3 : Int32), vI (0 : Int32)] [(.int (46 : Int32)), (.int (ci2.toInt8.toInt32))]) (fun _ k => XS.iloadN X3.here hx rfl (hb hby d11_25) rfl (XS.i2b X3.here hx rfl (hb hby d11_26) rfl k)) ?_
        by_cases hc11 : (ci2.toInt8.toInt32) = (46 : Int32)
        · refine og T3 (mkF m 31 #[vR ra0, vI (46 : Int32), vI (3 : Int32), vI (0 : Int32)] [(.int (0 : Int32))]) (fun _ k => XS.icmpNo X3.here hx rfl (hb hby d11_27) rfl (teq hc11).2 (XS.iloadN X3.here hx rfl (hb hby d11_30) rfl k)) ?_
          exact own_leaveN X3 hlk (v := some (.int (0 : Int32))) (fun h => by rw [hret] at h; cases h) (lb rfl) (lb rfl) (by rw [eq3]; exact (Or.inr (Or.inr (Or.inr (Or.inl ⟨hc5, hc7, hc9, hc11, rfl, N3, rfl⟩))))) (fun fs hr => retI X3 hx hret (hb hby d11_31) hr)
        · refine og T3 (mkF m 39 #[vR ra0, vI (46 : Int32), vI (3 : Int32), vI (-1 : Int32)] [(.int (-1 : Int32))]) (fun _ k => XS.icmpYes X3.here hx rfl (pc0 := 27) (pc' := 32) rfl (hb hby d11_27) rfl (feq hc11).2 (by decide) (by decide) (XS.iinc X3.here hx rfl (hb hby d11_32) rfl (l' := #[vR ra0, vI (46 : Int32), vI (3 : Int32), vI (-1 : Int32)]) rfl (XS.goto X3.here hx rfl (pc0 := 35) (pc' := 18) rfl (hb hby d11_35) (by decide) (by decide) (XS.iloadN X3.here hx rfl (hb hby d11_18) rfl (XS.ifYes X3.here hx rfl (pc0 := 19) (pc' := 38) rfl (hb hby d11_19) rfl ((if0 _ _).trans (tlt (by decide : (-1 : Int32) < (0 : Int32))).1) (by decide) (by decide) (XS.iconst X3.here hx rfl (hb hby d11_38) k)))))) ?_
          exact own_leaveN X3 hlk (v := some (.int (-1 : Int32))) (fun h => by rw [hret] at h; cases h) (lb rfl) (lb rfl) (by rw [eq3]; exact (Or.inr (Or.inr (Or.inr (Or.inr ⟨hc5, hc7, hc9, hc11, rfl, N3, rfl⟩))))) (fun fs hr => retI X3 hx hret (hb hby d11_39) hr)
abbrev R9_92 : Room := { frames := 2, cells := 0, slots := 0, locals := 28 }
def Q9_92 (Z : State) (ra0 : Addr) (ra1 : Addr) (kc2 : ClassId) (ci3 : Int32) (ci4 : Int32) (ci5 : Int32) (ci6 : Int32) (G1 : Int32) (h0 : Heap) (n0 : Nat) (v : Option Value) (h : Heap) (L : List Loc) : Prop := ((ci6.toInt8.toInt32) = (46 : Int32) ∧ v = some (.int (3 : Int32)) ∧ Fr n0 L ∧ h = h0) ∨ ((¬ ((ci6.toInt8.toInt32) = (46 : Int32))) ∧ (ci5.toInt8.toInt32) = (46 : Int32) ∧ v = some (.int (2 : Int32)) ∧ Fr n0 L ∧ h = h0) ∨ ((¬ ((ci6.toInt8.toInt32) = (46 : Int32))) ∧ (¬ ((ci5.toInt8.toInt32) = (46 : Int32))) ∧ (ci4.toInt8.toInt32) = (46 : Int32) ∧ v = some (.int (1 : Int32)) ∧ Fr n0 L ∧ h = h0) ∨ ((¬ ((ci6.toInt8.toInt32) = (46 : Int32))) ∧ (¬ ((ci5.toInt8.toInt32) = (46 : Int32))) ∧ (¬ ((ci4.toInt8.toInt32) = (46 : Int32))) ∧ (ci3.toInt8.toInt32) = (46 : Int32) ∧ v = some (.int (0 : Int32)) ∧ Fr n0 L ∧ h = h0) ∨ ((¬ ((ci6.toInt8.toInt32) = (46 : Int32))) ∧ (¬ ((ci5.toInt8.toInt32) = (46 : Int32))) ∧ (¬ ((ci4.toInt8.toInt32) = (46 : Int32))) ∧ (¬ ((ci3.toInt8.toInt32) = (46 : Int32))) ∧ v = some (.int (-1 : Int32)) ∧ Fr n0 L ∧ h = h0)
theorem rm9_92 (l : Launch) (Z : State) (a0 : Array Value) (hw : HW Z a0) (ra0 : Addr) (ra1 : Addr) (kc2 : ClassId) (ci3 : Int32) (ci4 : Int32) (ci5 : Int32) (ci6 : Int32) (G1 : Int32) (h0 : Heap) (n0 : Nat) (OLD : Old Z n0 h0) (E_ra0 : Exa Z h0 ra0 "java/lang/String") (F_coder_ra0 : Fld Z h0 ra0 "java/lang/String" "coder" "B" (.int (0 : Int32))) (F_value_ra0 : Fld Z h0 ra0 "java/lang/String" "value" "[B" (.ref ra1)) (hl_ci3 : ¬ ci3 < 0 ∧ ¬ (255 : Int32) < ci3) (hl_ci4 : ¬ ci4 < 0 ∧ ¬ (255 : Int32) < ci4) (hl_ci5 : ¬ ci5 < 0 ∧ ¬ (255 : Int32) < ci5) (hl_ci6 : ¬ ci6 < 0 ∧ ¬ (255 : Int32) < ci6) (V_ra1 : Arv Z h0 ra1 kc2 .byte (4 : Int32) [(.int (ci3.toInt8.toInt32)), (.int (ci4.toInt8.toInt32)), (.int (ci5.toInt8.toInt32)), (.int (ci6.toInt8.toInt32))] (.int (0 : Int32))) (O2 : Sta Z Z.heap "java/lang/String" "COMPACT_STRINGS" "Z" (.int G1)) (P5 : ¬ (G1 = (0 : Int32))) :
    own_CN l Z y8 jdk_42_method_83_code 3 (some .int) [] R9_92 #[(.ref ra0), (.int (46 : Int32)), (.int (3 : Int32))] h0 (Q9_92 Z ra0 ra1 kc2 ci3 ci4 ci5 ci6 G1 h0 n0) := by
  refine own_entryN (plainFor_of_name pn_1) fun p e s m below meth c s₁ hx hby hml hown hnm hret hlk hZ hh X0 e0 => ?_
  have N0 := Fr.nil n0
  rw [ef_9_92 m ra0]
  refine og s₁ (mkF m 1 #[vR ra0, vI (46 : Int32), vI (3 : Int32)] [(.ref ra0)]) (fun _ k => XS.aloadN X0.here hx rfl (hb hby d9_0) rfl rfl k) ?_
  obtain ⟨cq1, kq1, q1a, q1b, q1c⟩ := isOf hZ e0 E_ra0
  obtain ⟨_, _, ⟨T1, L1, k1, n1⟩, -, X1, ⟨Lc1, hQ1, l1, y1, z1⟩, st1⟩ := X0.virtualBack hx (y := y4) (z := y4) hown (mvT hZ (own_w hw 52)) (mvT hZ (own_w hw 53)) (notFace_of_selects (args := #[]) (mvT hZ (own_w hw 55))) (mvT hZ (own_w hw 55)) (mvT hZ (own_w hw 54)) (by decide) (backOf (W := 0) (rm10_93 l Z a0 hw ra0 ra1 kc2 ci3 ci4 ci5 ci6 G1 h0 n0 OLD E_ra0 F_coder_ra0 F_value_ra0 hl_ci3 hl_ci4 hl_ci5 hl_ci6 V_ra1 O2 P5) hZ (own_w hw 56) (own_w hw 8) (lb rfl) (lb rfl)) q1a q1c (g := (mkF m 1 #[vR ra0, vI (46 : Int32), vI (3 : Int32)] [(.ref ra0)])) rfl (by rw [hml]; rfl) (Steps.refl _) (argsL := []) (rest := []) (lenOf pd_4 rfl) rfl (lb rfl) (hb hby d9_1) (fun _ _ => ⟨rfl, e0, (lb rfl), (lb rfl)⟩)
  dsimp only [Pt.U, Pt.locs, Pt.cells, Pt.slots] at X1 l1 y1 z1 st1 hQ1
  subst l1 y1 z1
  obtain ⟨rfl, Nq1, eq1⟩ := hQ1
  have N1 := Fr.app N0 Nq1
  refine ot T1 (mkF m 4 #[vR ra0, vI (46 : Int32), vI (3 : Int32)] [(.int (1 : Int32))]) st1 ?_
  refine og T1 (mkF m 8 #[vR ra0, vI (46 : Int32), vI (3 : Int32)] [(.ref ra0)]) (fun _ k => XS.ifNo X1.here hx rfl (hb hby d9_4) rfl ((if0 _ _).trans (feq (by decide : ¬ ((1 : Int32) = (0 : Int32)))).1) (XS.aloadN X1.here hx rfl (hb hby d9_7) rfl rfl k)) ?_
  obtain ⟨T2, X2, e2, st2⟩ := getF X1 hx hZ hown (host := "") (Or.inl (own_w hw 25)) Via.refl eq1 F_value_ra0 (g := (mkF m 8 #[vR ra0, vI (46 : Int32), vI (3 : Int32)] [(.ref ra0)])) rfl rfl (hb hby d9_8)
  refine og T2 (mkF m 11 #[vR ra0, vI (46 : Int32), vI (3 : Int32)] [(.ref ra1)]) st2 ?_
  refine og T2 (mkF m 13 #[vR ra0, vI (46 : Int32), vI (3 : Int32)] [(.int (3 : Int32)), (.int (46 : Int32)), (.ref ra1)]) (fun _ k => XS.iloadN X2.here hx rfl (hb hby d9_11) rfl (XS.iloadN X2.here hx rfl (hb hby d9_12) rfl k)) ?_
  obtain ⟨_, _, ⟨T3, L3, k3, n3⟩, -, X3, ⟨Lc3, hQ3, l3, y3, z3⟩, st3⟩ := Jvm.LawKit.callS X2 hx (y := y7) hown (mvT hZ (own_w hw 57)) (mvT hZ (own_w hw 58)) (mvT hZ (own_w hw 59)) (mvT hZ (own_w hw 60)) (by decide) (backOf (W := 0) (rm11_94 l Z a0 hw ra1 kc2 ci3 ci4 ci5 ci6 h0 n0 OLD hl_ci3 hl_ci4 hl_ci5 hl_ci6 V_ra1) hZ (own_w hw 60) (own_w hw 59) (lb rfl) (lb rfl)) (g := (mkF m 13 #[vR ra0, vI (46 : Int32), vI (3 : Int32)] [(.int (3 : Int32)), (.int (46 : Int32)), (.ref ra1)])) rfl (by rw [hml]; rfl) (argsL := [(.ref ra1), (.int (46 : Int32)), (.int (3 : Int32))]) (rest := []) (lenOf pd_7 rfl) rfl (lb rfl) (hb hby d9_13) (fun _ _ => ⟨rfl, e2, (lb rfl), (lb rfl)⟩)
  dsimp only [Pt.U, Pt.locs, Pt.cells, Pt.slots] at X3 l3 y3 z3 st3 hQ3
  subst l3 y3 z3
  rcases hQ3 with hQ3 | hQ3 | hQ3 | hQ3 | hQ3
  · obtain ⟨hc4, rfl, Nq3, eq3⟩ := hQ3
    have N3 := Fr.app N1 Nq3
    refine og T3 (mkF m 16 #[vR ra0, vI (46 : Int32), vI (3 : Int32)] [(.int (3 : Int32))]) st3 ?_
    refine og T3 (mkF m 28 #[vR ra0, vI (46 : Int32), vI (3 : Int32)] [(.int (3 : Int32))]) (fun _ k => XS.goto X3.here hx rfl (pc0 := 16) (pc' := 28) rfl (hb hby d9_16) (by decide) (by decide) k) ?_
    exact own_leaveN X3 hlk (v := some (.int (3 : Int32))) (fun h => by rw [hret] at h; cases h) (lb rfl) (lb rfl) (by rw [eq3]; exact (Or.inl ⟨hc4, rfl, N3, rfl⟩)) (fun fs hr => retI X3 hx hret (hb hby d9_28) hr)
  · obtain ⟨hc5, hc6, rfl, Nq3, eq3⟩ := hQ3
    have N3 := Fr.app N1 Nq3
    refine og T3 (mkF m 16 #[vR ra0, vI (46 : Int32), vI (3 : Int32)] [(.int (2 : Int32))]) st3 ?_
    refine og T3 (mkF m 28 #[vR ra0, vI (46 : Int32), vI (3 : Int32)] [(.int (2 : Int32))]) (fun _ k => XS.goto X3.here hx rfl (pc0 := 16) (pc' := 28) rfl (hb hby d9_16) (by decide) (by decide) k) ?_
    exact own_leaveN X3 hlk (v := some (.int (2 : Int32))) (fun h => by rw [hret] at h; cases h) (lb rfl) (lb rfl) (by rw [eq3]; exact (Or.inr (Or.inl ⟨hc5, hc6, rfl, N3, rfl⟩))) (fun fs hr => retI X3 hx hret (hb hby d9_28) hr)
  · obtain ⟨hc7, hc8, hc9, rfl, Nq3, eq3⟩ := hQ3
    have N3 := Fr.app N1 Nq3
    refine og T3 (mkF m 16 #[vR ra0, vI (46 : Int32), vI (3 : Int32)] [(.int (1 : Int32))]) st3 ?_
    refine og T3 (mkF m 28 #[vR ra0, vI (46 : Int32), vI (3 : Int32)] [(.int (1 : Int32))]) (fun _ k => XS.goto X3.here hx rfl (pc0 := 16) (pc' := 28) rfl (hb hby d9_16) (by decide) (by decide) k) ?_
    exact own_leaveN X3 hlk (v := some (.int (1 : Int32))) (fun h => by rw [hret] at h; cases h) (lb rfl) (lb rfl) (by rw [eq3]; exact (Or.inr (Or.inr (Or.inl ⟨hc7, hc8, hc9, rfl, N3, rfl⟩)))) (fun fs hr => retI X3 hx hret (hb hby d9_28) hr)
  · obtain ⟨hc10, hc11, hc12, hc13, rfl, Nq3, eq3⟩ := hQ3
    have N3 := Fr.app N1 Nq3
    refine og T3 (mkF m 16 #[vR ra0, vI (46 : Int32), vI (3 : Int32)] [(.int (0 : Int32))]) st3 ?_
    refine og T3 (mkF m 28 #[vR ra0, vI (46 : Int32), vI (3 : Int32)] [(.int (0 : Int32))]) (fun _ k => XS.goto X3.here hx rfl (pc0 := 16) (pc' := 28) rfl (hb hby d9_16) (by decide) (by decide) k) ?_
    exact own_leaveN X3 hlk (v := some (.int (0 : Int32))) (fun h => by rw [hret] at h; cases h) (lb rfl) (lb rfl) (by rw [eq3]; exact (Or.inr (Or.inr (Or.inr (Or.inl ⟨hc10, hc11, hc12, hc13, rfl, N3, rfl⟩))))) (fun fs hr => retI X3 hx hret (hb hby d9_28) hr)
  · obtain ⟨hc14, hc15, hc16, hc17, rfl, Nq3, eq3⟩ := hQ3
    have N3 := Fr.app N1 Nq3
    refine og T3 (mkF m 16 #[vR ra0, vI (46 : Int32), vI (3 : Int32)] [(.int (-1 : Int32))]) st3 ?_
    refine og T3 (mkF m 28 #[vR ra0, vI (46 : Int32), vI (3 : Int32)] [(.int (-1 : Int32))]) (fun _ k => XS.goto X3.here hx rfl (pc0 := 16) (pc' := 28) rfl (hb hby d9_16) (by decide) (by decide) k) ?_
    exact own_leaveN X3 hlk (v := some (.int (-1 : Int32))) (fun h => by rw [hret] at h; cases h) (lb rfl) (lb rfl) (by rw [eq3]; exact (Or.inr (Or.inr (Or.inr (Or.inr ⟨hc14, hc15, hc16, hc17, rfl, N3, rfl⟩))))) (fun fs hr => retI X3 hx hret (hb hby d9_28) hr)
abbrev R6_91 : Room := { frames := 3, cells := 0, slots := 0, locals := 42 }
def Q6_91 (Z : State) (ra0 : Addr) (ra1 : Addr) (kc2 : ClassId) (ci3 : Int32) (ci4 : Int32) (ci5 : Int32) (ci6 : Int32) (G1 : Int32) (h0 : Heap) (n0 : Nat) (v : Option Value) (h : Heap) (L : List Loc) : Prop := ((ci6.toInt8.toInt32) = (46 : Int32) ∧ v = some (.int (3 : Int32)) ∧ Fr n0 L ∧ h = h0) ∨ ((¬ ((ci6.toInt8.toInt32) = (46 : Int32))) ∧ (ci5.toInt8.toInt32) = (46 : Int32) ∧ v = some (.int (2 : Int32)) ∧ Fr n0 L ∧ h = h0) ∨ ((¬ ((ci6.toInt8.toInt32) = (46 : Int32))) ∧ (¬ ((ci5.toInt8.toInt32) = (46 : Int32))) ∧ (ci4.toInt8.toInt32) = (46 : Int32) ∧ v = some (.int (1 : Int32)) ∧ Fr n0 L ∧ h = h0) ∨ ((¬ ((ci6.toInt8.toInt32) = (46 : Int32))) ∧ (¬ ((ci5.toInt8.toInt32) = (46 : Int32))) ∧ (¬ ((ci4.toInt8.toInt32) = (46 : Int32))) ∧ (ci3.toInt8.toInt32) = (46 : Int32) ∧ v = some (.int (0 : Int32)) ∧ Fr n0 L ∧ h = h0) ∨ ((¬ ((ci6.toInt8.toInt32) = (46 : Int32))) ∧ (¬ ((ci5.toInt8.toInt32) = (46 : Int32))) ∧ (¬ ((ci4.toInt8.toInt32) = (46 : Int32))) ∧ (¬ ((ci3.toInt8.toInt32) = (46 : Int32))) ∧ v = some (.int (-1 : Int32)) ∧ Fr n0 L ∧ h = h0)
theorem rm6_91 (l : Launch) (Z : State) (a0 : Array Value) (hw : HW Z a0) (ra0 : Addr) (ra1 : Addr) (kc2 : ClassId) (ci3 : Int32) (ci4 : Int32) (ci5 : Int32) (ci6 : Int32) (G1 : Int32) (h0 : Heap) (n0 : Nat) (OLD : Old Z n0 h0) (E_ra0 : Exa Z h0 ra0 "java/lang/String") (F_coder_ra0 : Fld Z h0 ra0 "java/lang/String" "coder" "B" (.int (0 : Int32))) (F_value_ra0 : Fld Z h0 ra0 "java/lang/String" "value" "[B" (.ref ra1)) (hl_ci3 : ¬ ci3 < 0 ∧ ¬ (255 : Int32) < ci3) (hl_ci4 : ¬ ci4 < 0 ∧ ¬ (255 : Int32) < ci4) (hl_ci5 : ¬ ci5 < 0 ∧ ¬ (255 : Int32) < ci5) (hl_ci6 : ¬ ci6 < 0 ∧ ¬ (255 : Int32) < ci6) (V_ra1 : Arv Z h0 ra1 kc2 .byte (4 : Int32) [(.int (ci3.toInt8.toInt32)), (.int (ci4.toInt8.toInt32)), (.int (ci5.toInt8.toInt32)), (.int (ci6.toInt8.toInt32))] (.int (0 : Int32))) (O2 : Sta Z Z.heap "java/lang/String" "COMPACT_STRINGS" "Z" (.int G1)) (P5 : ¬ (G1 = (0 : Int32))) :
    own_CN l Z y9 jdk_42_method_82_code 2 (some .int) [] R6_91 #[(.ref ra0), (.int (46 : Int32))] h0 (Q6_91 Z ra0 ra1 kc2 ci3 ci4 ci5 ci6 G1 h0 n0) := by
  refine own_entryN (plainFor_of_name pn_1) fun p e s m below meth c s₁ hx hby hml hown hnm hret hlk hZ hh X0 e0 => ?_
  have N0 := Fr.nil n0
  rw [ef_6_91 m ra0]
  refine og s₁ (mkF m 3 #[vR ra0, vI (46 : Int32)] [(.ref ra0), (.int (46 : Int32)), (.ref ra0)]) (fun _ k => XS.aloadN X0.here hx rfl (hb hby d6_0) rfl rfl (XS.iloadN X0.here hx rfl (hb hby d6_1) rfl (XS.aloadN X0.here hx rfl (hb hby d6_2) rfl rfl k))) ?_
  have hp1 : ∀ c ∈ ([ci3, ci4, ci5, ci6] : List Int32), ¬ c < 0 ∧ ¬ (255 : Int32) < c := by
    intro c hc
    simp only [List.mem_cons, List.not_mem_nil, or_false] at hc
    rcases hc with rfl | rfl | rfl | rfl
    · exact hl_ci3
    · exact hl_ci4
    · exact hl_ci5
    · exact hl_ci6
  obtain ⟨cq2, kq2, q2a, q2b, q2c⟩ := isOf hZ e0 E_ra0
  obtain ⟨_, _, ⟨T2, L2, k2, n2⟩, -, X2, ⟨Lc2, hQ2, l2, y2, z2⟩, st2⟩ := X0.virtualBack hx (y := y3) (z := y3) hown (mvT hZ (own_w hw 36)) (mvT hZ (own_w hw 37)) (notFace_of_selects (args := #[]) (mvT hZ (own_w hw 39))) (mvT hZ (own_w hw 39)) (mvT hZ (own_w hw 38)) (by decide) (StrChars.Road.lenW (W := 2) hZ (own_hln hw) (kI := 4) (own_w hw 7) (cs := ([ci3, ci4, ci5, ci6] : List Int32)) E_ra0 F_value_ra0 F_coder_ra0 V_ra1 (StrChars.Road.codOf rfl (fun c hc => (hp1 c hc).2)) (own_up _ hp1) (O2.ext OLD.2) P5 (lb rfl) (lb rfl) (lb rfl)) q2a q2c (g := (mkF m 3 #[vR ra0, vI (46 : Int32)] [(.ref ra0), (.int (46 : Int32)), (.ref ra0)])) rfl (by rw [hml]; rfl) (Steps.refl _) (argsL := []) (rest := [(.int (46 : Int32)), (.ref ra0)]) (lenOf pd_3 rfl) rfl (lb rfl) (hb hby d6_3) (fun _ _ => ⟨rfl, e0, (lb rfl), (lb rfl)⟩)
  dsimp only [Pt.U, Pt.locs, Pt.cells, Pt.slots] at X2 l2 y2 z2 st2 hQ2
  subst l2 y2 z2
  obtain ⟨rfl, rfl, eq2⟩ := hQ2
  have N2 := Fr.app N0 (Fr.nil n0)
  refine ot T2 (mkF m 6 #[vR ra0, vI (46 : Int32)] [(.int (4 : Int32)), (.int (46 : Int32)), (.ref ra0)]) st2 ?_
  refine og T2 (mkF m 8 #[vR ra0, vI (46 : Int32)] [(.int (3 : Int32)), (.int (46 : Int32)), (.ref ra0)]) (fun _ k => XS.iconst X2.here hx rfl (hb hby d6_6) (XS.isub X2.here hx rfl (hb hby d6_7) rfl k)) ?_
  obtain ⟨cq3, kq3, q3a, q3b, q3c⟩ := isOf hZ eq2 E_ra0
  obtain ⟨_, _, ⟨T3, L3, k3, n3⟩, -, X3, ⟨Lc3, hQ3, l3, y3, z3⟩, st3⟩ := X2.virtualBack hx (y := y8) (z := y8) hown (mvT hZ (own_w hw 47)) (mvT hZ (own_w hw 48)) (notFace_of_selects (args := #[]) (mvT hZ (own_w hw 50))) (mvT hZ (own_w hw 50)) (mvT hZ (own_w hw 49)) (by decide) (backOf (W := 0) (rm9_92 l Z a0 hw ra0 ra1 kc2 ci3 ci4 ci5 ci6 G1 h0 n0 OLD E_ra0 F_coder_ra0 F_value_ra0 hl_ci3 hl_ci4 hl_ci5 hl_ci6 V_ra1 O2 P5) hZ (own_w hw 51) (own_w hw 8) (lb rfl) (lb rfl)) q3a q3c (g := (mkF m 8 #[vR ra0, vI (46 : Int32)] [(.int (3 : Int32)), (.int (46 : Int32)), (.ref ra0)])) rfl (by rw [hml]; rfl) (Steps.refl _) (argsL := [(.int (46 : Int32)), (.int (3 : Int32))]) (rest := []) (lenOf pd_6 rfl) rfl (lb rfl) (hb hby d6_8) (fun _ _ => ⟨rfl, eq2, (lb rfl), (lb rfl)⟩)
  dsimp only [Pt.U, Pt.locs, Pt.cells, Pt.slots] at X3 l3 y3 z3 st3 hQ3
  subst l3 y3 z3
  rcases hQ3 with hQ3 | hQ3 | hQ3 | hQ3 | hQ3
  · obtain ⟨hc4, rfl, Nq3, eq3⟩ := hQ3
    have N3 := Fr.app N2 Nq3
    refine ot T3 (mkF m 11 #[vR ra0, vI (46 : Int32)] [(.int (3 : Int32))]) st3 ?_
    exact own_leaveN X3 hlk (v := some (.int (3 : Int32))) (fun h => by rw [hret] at h; cases h) (lb rfl) (lb rfl) (by rw [eq3]; exact (Or.inl ⟨hc4, rfl, N3, rfl⟩)) (fun fs hr => retI X3 hx hret (hb hby d6_11) hr)
  · obtain ⟨hc5, hc6, rfl, Nq3, eq3⟩ := hQ3
    have N3 := Fr.app N2 Nq3
    refine ot T3 (mkF m 11 #[vR ra0, vI (46 : Int32)] [(.int (2 : Int32))]) st3 ?_
    exact own_leaveN X3 hlk (v := some (.int (2 : Int32))) (fun h => by rw [hret] at h; cases h) (lb rfl) (lb rfl) (by rw [eq3]; exact (Or.inr (Or.inl ⟨hc5, hc6, rfl, N3, rfl⟩))) (fun fs hr => retI X3 hx hret (hb hby d6_11) hr)
  · obtain ⟨hc7, hc8, hc9, rfl, Nq3, eq3⟩ := hQ3
    have N3 := Fr.app N2 Nq3
    refine ot T3 (mkF m 11 #[vR ra0, vI (46 : Int32)] [(.int (1 : Int32))]) st3 ?_
    exact own_leaveN X3 hlk (v := some (.int (1 : Int32))) (fun h => by rw [hret] at h; cases h) (lb rfl) (lb rfl) (by rw [eq3]; exact (Or.inr (Or.inr (Or.inl ⟨hc7, hc8, hc9, rfl, N3, rfl⟩)))) (fun fs hr => retI X3 hx hret (hb hby d6_11) hr)
  · obtain ⟨hc10, hc11, hc12, hc13, rfl, Nq3, eq3⟩ := hQ3
    have N3 := Fr.app N2 Nq3
    refine ot T3 (mkF m 11 #[vR ra0, vI (46 : Int32)] [(.int (0 : Int32))]) st3 ?_
    exact own_leaveN X3 hlk (v := some (.int (0 : Int32))) (fun h => by rw [hret] at h; cases h) (lb rfl) (lb rfl) (by rw [eq3]; exact (Or.inr (Or.inr (Or.inr (Or.inl ⟨hc10, hc11, hc12, hc13, rfl, N3, rfl⟩))))) (fun fs hr => retI X3 hx hret (hb hby d6_11) hr)
  · obtain ⟨hc14, hc15, hc16, hc17, rfl, Nq3, eq3⟩ := hQ3
    have N3 := Fr.app N2 Nq3
    refine ot T3 (mkF m 11 #[vR ra0, vI (46 : Int32)] [(.int (-1 : Int32))]) st3 ?_
    exact own_leaveN X3 hlk (v := some (.int (-1 : Int32))) (fun h => by rw [hret] at h; cases h) (lb rfl) (lb rfl) (by rw [eq3]; exact (Or.inr (Or.inr (Or.inr (Or.inr ⟨hc14, hc15, hc16, hc17, rfl, N3, rfl⟩))))) (fun fs hr => retI X3 hx hret (hb hby d6_11) hr)
abbrev R16_98 : Room := { frames := 0, cells := 0, slots := 0, locals := 0 }
def Q16_98 (Z : State) (cv0 : Value) (h0 : Heap) (n0 : Nat) (v : Option Value) (h : Heap) (L : List Loc) : Prop := (v = some (.int (0 : Int32)) ∧ Fr n0 L ∧ h = h0)
theorem rm16_98 (l : Launch) (Z : State) (a0 : Array Value) (hw : HW Z a0) (cv0 : Value) (h0 : Heap) (n0 : Nat) (OLD : Old Z n0 h0) (rf_cv0 : cv0.isRef = true) :
    own_CN l Z y10 jdk_41_method_12_code 4 (some .int) [] R16_98 #[(.int (0 : Int32)), (.int (4 : Int32)), (.int (4 : Int32)), cv0] h0 (Q16_98 Z cv0 h0 n0) := by
  refine own_entryN (plainFor_of_name pn_3) fun p e s m below meth c s₁ hx hby hml hown hnm hret hlk hZ hh X0 e0 => ?_
  have N0 := Fr.nil n0
  rw [ef_16_98 m cv0 rf_cv0]
  refine og s₁ (mkF m 23 #[vI (0 : Int32), vI (4 : Int32), vI (4 : Int32), .val cv0] [(.int (0 : Int32))]) (fun _ k => XS.iloadN X0.here hx rfl (hb hby d16_0) rfl (XS.ifNo X0.here hx rfl (hb hby d16_1) rfl ((if0 _ _).trans (flt (by decide : ¬ ((0 : Int32) < (0 : Int32)))).1) (XS.iloadN X0.here hx rfl (hb hby d16_4) rfl (XS.iloadN X0.here hx rfl (hb hby d16_5) rfl (XS.icmpNo X0.here hx rfl (hb hby d16_6) rfl (flt (by decide : ¬ ((4 : Int32) < (0 : Int32)))).2.2.1 (XS.iloadN X0.here hx rfl (hb hby d16_9) rfl (XS.iloadN X0.here hx rfl (hb hby d16_10) rfl (XS.icmpYes X0.here hx rfl (pc0 := 11) (pc' := 22) rfl (hb hby d16_11) rfl (flt (by decide : ¬ ((4 : Int32) < (4 : Int32)))).2.2.2 (by decide) (by decide) (XS.iloadN X0.here hx rfl (hb hby d16_22) rfl k))))))))) ?_
  exact own_leaveN X0 hlk (v := some (.int (0 : Int32))) (fun h => by rw [hret] at h; cases h) (lb rfl) (lb rfl) (by rw [e0]; exact ⟨rfl, N0, rfl⟩) (fun fs hr => retI X0 hx hret (hb hby d16_23) hr)
abbrev R15_97 : Room := { frames := 1, cells := 0, slots := 0, locals := 15 }
def Q15_97 (Z : State) (G3 : Value) (h0 : Heap) (n0 : Nat) (v : Option Value) (h : Heap) (L : List Loc) : Prop := (v = none ∧ Fr n0 L ∧ h = h0)
theorem rm15_97 (l : Launch) (Z : State) (a0 : Array Value) (hw : HW Z a0) (G3 : Value) (h0 : Heap) (n0 : Nat) (OLD : Old Z n0 h0) (O4 : Sta Z Z.heap "jdk/internal/util/Preconditions" "SIOOBE_FORMATTER" "Ljava/util/function/BiFunction;" G3) (rG3 : G3.isRef = true) :
    own_CN l Z y11 jdk_42_method_158_code 3 none [] R15_97 #[(.int (0 : Int32)), (.int (4 : Int32)), (.int (4 : Int32))] h0 (Q15_97 Z G3 h0 n0) := by
  refine own_entryN (plainFor_of_name pn_1) fun p e s m below meth c s₁ hx hby hml hown hnm hret hlk hZ hh X0 e0 => ?_
  have N0 := Fr.nil n0
  rw [ef_15_97 m ]
  refine og s₁ (mkF m 3 #[vI (0 : Int32), vI (4 : Int32), vI (4 : Int32)] [(.int (4 : Int32)), (.int (4 : Int32)), (.int (0 : Int32))]) (fun _ k => XS.iloadN X0.here hx rfl (hb hby d15_0) rfl (XS.iloadN X0.here hx rfl (hb hby d15_1) rfl (XS.iloadN X0.here hx rfl (hb hby d15_2) rfl k))) ?_
  obtain ⟨T1, X1, e1, st1⟩ := getS2 X0 hx hZ hown (host := "") (Or.inl (own_w hw 76)) Via.refl e0 (O4.ext OLD.2) (g := (mkF m 3 #[vI (0 : Int32), vI (4 : Int32), vI (4 : Int32)] [(.int (4 : Int32)), (.int (4 : Int32)), (.int (0 : Int32))])) rfl (hb hby d15_3)
  refine og T1 (mkF m 6 #[vI (0 : Int32), vI (4 : Int32), vI (4 : Int32)] [G3, (.int (4 : Int32)), (.int (4 : Int32)), (.int (0 : Int32))]) st1 ?_
  obtain ⟨_, _, ⟨T2, L2, k2, n2⟩, -, X2, ⟨Lc2, hQ2, l2, y2, z2⟩, st2⟩ := Jvm.LawKit.callS X1 hx (y := y10) hown (mvT hZ (own_w hw 78)) (mvT hZ (own_w hw 79)) (mvT hZ (own_w hw 77)) (mvT hZ (own_w hw 80)) (by decide) (backOf (W := 0) (rm16_98 l Z a0 hw G3 h0 n0 OLD rG3) hZ (own_w hw 80) (own_w hw 77) (lb rfl) (lb rfl)) (g := (mkF m 6 #[vI (0 : Int32), vI (4 : Int32), vI (4 : Int32)] [G3, (.int (4 : Int32)), (.int (4 : Int32)), (.int (0 : Int32))])) rfl (by rw [hml]; rfl) (argsL := [(.int (0 : Int32)), (.int (4 : Int32)), (.int (4 : Int32)), G3]) (rest := []) (lenOf pd_9 rfl) rfl (lb rfl) (hb hby d15_6) (fun _ _ => ⟨rfl, e1, (lb rfl), (lb rfl)⟩)
  dsimp only [Pt.U, Pt.locs, Pt.cells, Pt.slots] at X2 l2 y2 z2 st2 hQ2
  subst l2 y2 z2
  obtain ⟨rfl, Nq2, eq2⟩ := hQ2
  have N2 := Fr.app N0 Nq2
  refine og T2 (mkF m 9 #[vI (0 : Int32), vI (4 : Int32), vI (4 : Int32)] [(.int (0 : Int32))]) st2 ?_
  refine og T2 (mkF m 10 #[vI (0 : Int32), vI (4 : Int32), vI (4 : Int32)] []) (fun _ k => XS.pop X2.here hx rfl (hb hby d15_9) rfl rfl k) ?_
  exact own_leaveN X2 hlk (v := none) (fun _ => rfl) (lb rfl) (lb rfl) (by rw [eq2]; exact ⟨rfl, N2, rfl⟩) (fun fs hr => X2.returnOut hx hret (hb hby d15_10) hr)
abbrev R14_96 : Room := { frames := 2, cells := 0, slots := 0, locals := 29 }
def Q14_96 (Z : State) (ra0 : Addr) (ra1 : Addr) (kc2 : ClassId) (ci3 : Int32) (ci4 : Int32) (ci5 : Int32) (ci6 : Int32) (G1 : Int32) (G3 : Value) (h0 : Heap) (n0 : Nat) (v : Option Value) (h : Heap) (L : List Loc) : Prop := (v = some (.ref ra0) ∧ Fr n0 L ∧ h = h0)
theorem rm14_96 (l : Launch) (Z : State) (a0 : Array Value) (hw : HW Z a0) (ra0 : Addr) (ra1 : Addr) (kc2 : ClassId) (ci3 : Int32) (ci4 : Int32) (ci5 : Int32) (ci6 : Int32) (G1 : Int32) (G3 : Value) (h0 : Heap) (n0 : Nat) (OLD : Old Z n0 h0) (E_ra0 : Exa Z h0 ra0 "java/lang/String") (F_coder_ra0 : Fld Z h0 ra0 "java/lang/String" "coder" "B" (.int (0 : Int32))) (F_value_ra0 : Fld Z h0 ra0 "java/lang/String" "value" "[B" (.ref ra1)) (hl_ci3 : ¬ ci3 < 0 ∧ ¬ (255 : Int32) < ci3) (hl_ci4 : ¬ ci4 < 0 ∧ ¬ (255 : Int32) < ci4) (hl_ci5 : ¬ ci5 < 0 ∧ ¬ (255 : Int32) < ci5) (hl_ci6 : ¬ ci6 < 0 ∧ ¬ (255 : Int32) < ci6) (V_ra1 : Arv Z h0 ra1 kc2 .byte (4 : Int32) [(.int (ci3.toInt8.toInt32)), (.int (ci4.toInt8.toInt32)), (.int (ci5.toInt8.toInt32)), (.int (ci6.toInt8.toInt32))] (.int (0 : Int32))) (O2 : Sta Z Z.heap "java/lang/String" "COMPACT_STRINGS" "Z" (.int G1)) (P5 : ¬ (G1 = (0 : Int32))) (O4 : Sta Z Z.heap "jdk/internal/util/Preconditions" "SIOOBE_FORMATTER" "Ljava/util/function/BiFunction;" G3) (rG3 : G3.isRef = true) :
    own_CN l Z y12 jdk_42_method_92_code 5 (some (.object "java/lang/String")) [] R14_96 #[(.ref ra0), (.int (0 : Int32)), (.int (4 : Int32))] h0 (Q14_96 Z ra0 ra1 kc2 ci3 ci4 ci5 ci6 G1 G3 h0 n0) := by
  refine own_entryN (plainFor_of_name pn_1) fun p e s m below meth c s₁ hx hby hml hown hnm hret hlk hZ hh X0 e0 => ?_
  have N0 := Fr.nil n0
  rw [ef_14_96 m ra0]
  refine og s₁ (mkF m 1 #[vR ra0, vI (0 : Int32), vI (4 : Int32), vU, vU] [(.ref ra0)]) (fun _ k => XS.aloadN X0.here hx rfl (hb hby d14_0) rfl rfl k) ?_
  have hp1 : ∀ c ∈ ([ci3, ci4, ci5, ci6] : List Int32), ¬ c < 0 ∧ ¬ (255 : Int32) < c := by
    intro c hc
    simp only [List.mem_cons, List.not_mem_nil, or_false] at hc
    rcases hc with rfl | rfl | rfl | rfl
    · exact hl_ci3
    · exact hl_ci4
    · exact hl_ci5
    · exact hl_ci6
  obtain ⟨cq2, kq2, q2a, q2b, q2c⟩ := isOf hZ e0 E_ra0
  obtain ⟨_, _, ⟨T2, L2, k2, n2⟩, -, X2, ⟨Lc2, hQ2, l2, y2, z2⟩, st2⟩ := X0.virtualBack hx (y := y3) (z := y3) hown (mvT hZ (own_w hw 36)) (mvT hZ (own_w hw 37)) (notFace_of_selects (args := #[]) (mvT hZ (own_w hw 39))) (mvT hZ (own_w hw 39)) (mvT hZ (own_w hw 38)) (by decide) (StrChars.Road.lenW (W := 0) hZ (own_hln hw) (kI := 4) (own_w hw 7) (cs := ([ci3, ci4, ci5, ci6] : List Int32)) E_ra0 F_value_ra0 F_coder_ra0 V_ra1 (StrChars.Road.codOf rfl (fun c hc => (hp1 c hc).2)) (own_up _ hp1) (O2.ext OLD.2) P5 (lb rfl) (lb rfl) (lb rfl)) q2a q2c (g := (mkF m 1 #[vR ra0, vI (0 : Int32), vI (4 : Int32), vU, vU] [(.ref ra0)])) rfl (by rw [hml]; rfl) (Steps.refl _) (argsL := []) (rest := []) (lenOf pd_3 rfl) rfl (lb rfl) (hb hby d14_1) (fun _ _ => ⟨rfl, e0, (lb rfl), (lb rfl)⟩)
  dsimp only [Pt.U, Pt.locs, Pt.cells, Pt.slots] at X2 l2 y2 z2 st2 hQ2
  subst l2 y2 z2
  obtain ⟨rfl, rfl, eq2⟩ := hQ2
  have N2 := Fr.app N0 (Fr.nil n0)
  refine ot T2 (mkF m 4 #[vR ra0, vI (0 : Int32), vI (4 : Int32), vU, vU] [(.int (4 : Int32))]) st2 ?_
  refine og T2 (mkF m 8 #[vR ra0, vI (0 : Int32), vI (4 : Int32), vI (4 : Int32), vU] [(.int (4 : Int32)), (.int (4 : Int32)), (.int (0 : Int32))]) (fun _ k => XS.istoreN X2.here hx rfl (hb hby d14_4) rfl (l' := #[vR ra0, vI (0 : Int32), vI (4 : Int32), vI (4 : Int32), vU]) rfl (XS.iloadN X2.here hx rfl (hb hby d14_5) rfl (XS.iloadN X2.here hx rfl (hb hby d14_6) rfl (XS.iloadN X2.here hx rfl (hb hby d14_7) rfl k)))) ?_
  obtain ⟨_, _, ⟨T3, L3, k3, n3⟩, -, X3, ⟨Lc3, hQ3, l3, y3, z3⟩, st3⟩ := Jvm.LawKit.callS X2 hx (y := y11) hown (mvT hZ (own_w hw 73)) (mvT hZ (own_w hw 74)) (mvT hZ (own_w hw 8)) (mvT hZ (own_w hw 75)) (by decide) (backOf (W := 0) (rm15_97 l Z a0 hw G3 h0 n0 OLD O4 rG3) hZ (own_w hw 75) (own_w hw 8) (lb rfl) (lb rfl)) (g := (mkF m 8 #[vR ra0, vI (0 : Int32), vI (4 : Int32), vI (4 : Int32), vU] [(.int (4 : Int32)), (.int (4 : Int32)), (.int (0 : Int32))])) rfl (by rw [hml]; rfl) (argsL := [(.int (0 : Int32)), (.int (4 : Int32)), (.int (4 : Int32))]) (rest := []) (lenOf pd_10 rfl) rfl (lb rfl) (hb hby d14_8) (fun _ _ => ⟨rfl, eq2, (lb rfl), (lb rfl)⟩)
  dsimp only [Pt.U, Pt.locs, Pt.cells, Pt.slots] at X3 l3 y3 z3 st3 hQ3
  subst l3 y3 z3
  obtain ⟨rfl, Nq3, eq3⟩ := hQ3
  have N3 := Fr.app N2 Nq3
  refine og T3 (mkF m 11 #[vR ra0, vI (0 : Int32), vI (4 : Int32), vI (4 : Int32), vU] []) st3 ?_
  refine og T3 (mkF m 21 #[vR ra0, vI (0 : Int32), vI (4 : Int32), vI (4 : Int32), vU] [(.ref ra0)]) (fun _ k => XS.iloadN X3.here hx rfl (hb hby d14_11) rfl (XS.ifNo X3.here hx rfl (hb hby d14_12) rfl ((if0 _ _).trans (teq (by decide : (0 : Int32) = (0 : Int32))).2) (XS.iloadN X3.here hx rfl (hb hby d14_15) rfl (XS.iloadN X3.here hx rfl (hb hby d14_16) rfl (XS.icmpNo X3.here hx rfl (hb hby d14_17) rfl (teq (by decide : (4 : Int32) = (4 : Int32))).2 (XS.aloadN X3.here hx rfl (hb hby d14_20) rfl rfl k)))))) ?_
  exact own_leaveN X3 hlk (v := some (.ref ra0)) (fun h => by rw [hret] at h; cases h) (lb rfl) (lb rfl) (by rw [eq3]; exact ⟨rfl, N3, rfl⟩) (fun fs hr => retOut X3 hx (t := (.object "java/lang/String")) hret rfl (Or.inr (Or.inr (Or.inr (Or.inr ⟨rfl, rfl, rfl⟩)))) (hb hby d14_21) hr)
abbrev R16_101 : Room := { frames := 0, cells := 0, slots := 0, locals := 0 }
def Q16_101 (Z : State) (cv0 : Value) (h0 : Heap) (n0 : Nat) (v : Option Value) (h : Heap) (L : List Loc) : Prop := (v = some (.int (0 : Int32)) ∧ Fr n0 L ∧ h = h0)
theorem rm16_101 (l : Launch) (Z : State) (a0 : Array Value) (hw : HW Z a0) (cv0 : Value) (h0 : Heap) (n0 : Nat) (OLD : Old Z n0 h0) (rf_cv0 : cv0.isRef = true) :
    own_CN l Z y10 jdk_41_method_12_code 4 (some .int) [] R16_101 #[(.int (0 : Int32)), (.int (3 : Int32)), (.int (4 : Int32)), cv0] h0 (Q16_101 Z cv0 h0 n0) := by
  refine own_entryN (plainFor_of_name pn_3) fun p e s m below meth c s₁ hx hby hml hown hnm hret hlk hZ hh X0 e0 => ?_
  have N0 := Fr.nil n0
  rw [ef_16_101 m cv0 rf_cv0]
  refine og s₁ (mkF m 23 #[vI (0 : Int32), vI (3 : Int32), vI (4 : Int32), .val cv0] [(.int (0 : Int32))]) (fun _ k => XS.iloadN X0.here hx rfl (hb hby d16_0) rfl (XS.ifNo X0.here hx rfl (hb hby d16_1) rfl ((if0 _ _).trans (flt (by decide : ¬ ((0 : Int32) < (0 : Int32)))).1) (XS.iloadN X0.here hx rfl (hb hby d16_4) rfl (XS.iloadN X0.here hx rfl (hb hby d16_5) rfl (XS.icmpNo X0.here hx rfl (hb hby d16_6) rfl (flt (by decide : ¬ ((3 : Int32) < (0 : Int32)))).2.2.1 (XS.iloadN X0.here hx rfl (hb hby d16_9) rfl (XS.iloadN X0.here hx rfl (hb hby d16_10) rfl (XS.icmpYes X0.here hx rfl (pc0 := 11) (pc' := 22) rfl (hb hby d16_11) rfl (flt (by decide : ¬ ((4 : Int32) < (3 : Int32)))).2.2.2 (by decide) (by decide) (XS.iloadN X0.here hx rfl (hb hby d16_22) rfl k))))))))) ?_
  exact own_leaveN X0 hlk (v := some (.int (0 : Int32))) (fun h => by rw [hret] at h; cases h) (lb rfl) (lb rfl) (by rw [e0]; exact ⟨rfl, N0, rfl⟩) (fun fs hr => retI X0 hx hret (hb hby d16_23) hr)
abbrev R15_100 : Room := { frames := 1, cells := 0, slots := 0, locals := 15 }
def Q15_100 (Z : State) (G3 : Value) (h0 : Heap) (n0 : Nat) (v : Option Value) (h : Heap) (L : List Loc) : Prop := (v = none ∧ Fr n0 L ∧ h = h0)
theorem rm15_100 (l : Launch) (Z : State) (a0 : Array Value) (hw : HW Z a0) (G3 : Value) (h0 : Heap) (n0 : Nat) (OLD : Old Z n0 h0) (O4 : Sta Z Z.heap "jdk/internal/util/Preconditions" "SIOOBE_FORMATTER" "Ljava/util/function/BiFunction;" G3) (rG3 : G3.isRef = true) :
    own_CN l Z y11 jdk_42_method_158_code 3 none [] R15_100 #[(.int (0 : Int32)), (.int (3 : Int32)), (.int (4 : Int32))] h0 (Q15_100 Z G3 h0 n0) := by
  refine own_entryN (plainFor_of_name pn_1) fun p e s m below meth c s₁ hx hby hml hown hnm hret hlk hZ hh X0 e0 => ?_
  have N0 := Fr.nil n0
  rw [ef_15_100 m ]
  refine og s₁ (mkF m 3 #[vI (0 : Int32), vI (3 : Int32), vI (4 : Int32)] [(.int (4 : Int32)), (.int (3 : Int32)), (.int (0 : Int32))]) (fun _ k => XS.iloadN X0.here hx rfl (hb hby d15_0) rfl (XS.iloadN X0.here hx rfl (hb hby d15_1) rfl (XS.iloadN X0.here hx rfl (hb hby d15_2) rfl k))) ?_
  obtain ⟨T1, X1, e1, st1⟩ := getS2 X0 hx hZ hown (host := "") (Or.inl (own_w hw 76)) Via.refl e0 (O4.ext OLD.2) (g := (mkF m 3 #[vI (0 : Int32), vI (3 : Int32), vI (4 : Int32)] [(.int (4 : Int32)), (.int (3 : Int32)), (.int (0 : Int32))])) rfl (hb hby d15_3)
  refine og T1 (mkF m 6 #[vI (0 : Int32), vI (3 : Int32), vI (4 : Int32)] [G3, (.int (4 : Int32)), (.int (3 : Int32)), (.int (0 : Int32))]) st1 ?_
  obtain ⟨_, _, ⟨T2, L2, k2, n2⟩, -, X2, ⟨Lc2, hQ2, l2, y2, z2⟩, st2⟩ := Jvm.LawKit.callS X1 hx (y := y10) hown (mvT hZ (own_w hw 78)) (mvT hZ (own_w hw 79)) (mvT hZ (own_w hw 77)) (mvT hZ (own_w hw 80)) (by decide) (backOf (W := 0) (rm16_101 l Z a0 hw G3 h0 n0 OLD rG3) hZ (own_w hw 80) (own_w hw 77) (lb rfl) (lb rfl)) (g := (mkF m 6 #[vI (0 : Int32), vI (3 : Int32), vI (4 : Int32)] [G3, (.int (4 : Int32)), (.int (3 : Int32)), (.int (0 : Int32))])) rfl (by rw [hml]; rfl) (argsL := [(.int (0 : Int32)), (.int (3 : Int32)), (.int (4 : Int32)), G3]) (rest := []) (lenOf pd_9 rfl) rfl (lb rfl) (hb hby d15_6) (fun _ _ => ⟨rfl, e1, (lb rfl), (lb rfl)⟩)
  dsimp only [Pt.U, Pt.locs, Pt.cells, Pt.slots] at X2 l2 y2 z2 st2 hQ2
  subst l2 y2 z2
  obtain ⟨rfl, Nq2, eq2⟩ := hQ2
  have N2 := Fr.app N0 Nq2
  refine og T2 (mkF m 9 #[vI (0 : Int32), vI (3 : Int32), vI (4 : Int32)] [(.int (0 : Int32))]) st2 ?_
  refine og T2 (mkF m 10 #[vI (0 : Int32), vI (3 : Int32), vI (4 : Int32)] []) (fun _ k => XS.pop X2.here hx rfl (hb hby d15_9) rfl rfl k) ?_
  exact own_leaveN X2 hlk (v := none) (fun _ => rfl) (lb rfl) (lb rfl) (by rw [eq2]; exact ⟨rfl, N2, rfl⟩) (fun fs hr => X2.returnOut hx hret (hb hby d15_10) hr)
abbrev R23_105 : Room := { frames := 0, cells := 0, slots := 0, locals := 0 }
def Q23_105 (Z : State)  (h0 : Heap) (n0 : Nat) (v : Option Value) (h : Heap) (L : List Loc) : Prop := (v = none ∧ Fr n0 L ∧ h = h0)
theorem rm23_105 (l : Launch) (Z : State) (a0 : Array Value) (hw : HW Z a0)  (h0 : Heap) (n0 : Nat) (OLD : Old Z n0 h0) :
    own_CN l Z y16 jdk_65_method_131_code 2 none [] R23_105 #[(.int (0 : Int32)), (.int (3 : Int32))] h0 (Q23_105 Z  h0 n0) := by
  refine own_entryN (plainFor_of_name pn_5) fun p e s m below meth c s₁ hx hby hml hown hnm hret hlk hZ hh X0 e0 => ?_
  have N0 := Fr.nil n0
  rw [ef_23_105 m ]
  refine og s₁ (mkF m 37 #[vI (0 : Int32), vI (3 : Int32)] []) (fun _ k => XS.iloadN X0.here hx rfl (hb hby d23_0) rfl (XS.iloadN X0.here hx rfl (hb hby d23_1) rfl (XS.icmpYes X0.here hx rfl (pc0 := 2) (pc' := 37) rfl (hb hby d23_2) rfl (flt (by decide : ¬ ((3 : Int32) < (0 : Int32)))).2.1 (by decide) (by decide) k))) ?_
  exact own_leaveN X0 hlk (v := none) (fun _ => rfl) (lb rfl) (lb rfl) (by rw [e0]; exact ⟨rfl, N0, rfl⟩) (fun fs hr => X0.returnOut hx hret (hb hby d23_37) hr)
abbrev R13_106 : Room := { frames := 0, cells := 0, slots := 0, locals := 0 }
def Q13_106 (Z : State)  (h0 : Heap) (n0 : Nat) (v : Option Value) (h : Heap) (L : List Loc) : Prop := (v = some (.int (3 : Int32)) ∧ Fr n0 L ∧ h = h0)
theorem rm13_106 (l : Launch) (Z : State) (a0 : Array Value) (hw : HW Z a0)  (h0 : Heap) (n0 : Nat) (OLD : Old Z n0 h0) :
    own_CN l Z y6 jdk_29_method_69_code 2 (some .int) [] R13_106 #[(.int (4 : Int32)), (.int (3 : Int32))] h0 (Q13_106 Z  h0 n0) := by
  refine own_entryN (Jvm.Free.JP.mathPlain rfl (by decide +kernel)) fun p e s m below meth c s₁ hx hby hml hown hnm hret hlk hZ hh X0 e0 => ?_
  have N0 := Fr.nil n0
  rw [ef_13_106 m ]
  refine og s₁ (mkF m 10 #[vI (4 : Int32), vI (3 : Int32)] [(.int (3 : Int32))]) (fun _ k => XS.iloadN X0.here hx rfl (hb hby d13_0) rfl (XS.iloadN X0.here hx rfl (hb hby d13_1) rfl (XS.icmpYes X0.here hx rfl (pc0 := 2) (pc' := 9) rfl (hb hby d13_2) rfl (tlt (by decide : (3 : Int32) < (4 : Int32))).2.2.1 (by decide) (by decide) (XS.iloadN X0.here hx rfl (hb hby d13_9) rfl k)))) ?_
  exact own_leaveN X0 hlk (v := some (.int (3 : Int32))) (fun h => by rw [hret] at h; cases h) (lb rfl) (lb rfl) (by rw [e0]; exact ⟨rfl, N0, rfl⟩) (fun fs hr => retI X0 hx hret (hb hby d13_10) hr)
abbrev R22_104 : Room := { frames := 1, cells := 1, slots := 3, locals := 18 }
def Q22_104 (Z : State) (ra0 : Addr) (kc1 : ClassId) (ci2 : Int32) (ci3 : Int32) (ci4 : Int32) (ci5 : Int32) (h0 : Heap) (n0 : Nat) (v : Option Value) (h : Heap) (L : List Loc) : Prop := (∃ (b2 : Addr) (k2 : ClassId), v = some (.ref b2) ∧ Fr n0 L ∧ Keep h0 h [] ∧ h0.size ≤ b2 ∧ Arv Z h b2 k2 .byte (3 : Int32) [(.int (ci2.toInt8.toInt32)), (.int (ci3.toInt8.toInt32)), (.int (ci4.toInt8.toInt32))] (.int (0 : Int32)))
theorem rm22_104 (l : Launch) (Z : State) (a0 : Array Value) (hw : HW Z a0) (ra0 : Addr) (kc1 : ClassId) (ci2 : Int32) (ci3 : Int32) (ci4 : Int32) (ci5 : Int32) (h0 : Heap) (n0 : Nat) (OLD : Old Z n0 h0) (hl_ci2 : ¬ ci2 < 0 ∧ ¬ (255 : Int32) < ci2) (hl_ci3 : ¬ ci3 < 0 ∧ ¬ (255 : Int32) < ci3) (hl_ci4 : ¬ ci4 < 0 ∧ ¬ (255 : Int32) < ci4) (hl_ci5 : ¬ ci5 < 0 ∧ ¬ (255 : Int32) < ci5) (V_ra0 : Arv Z h0 ra0 kc1 .byte (4 : Int32) [(.int (ci2.toInt8.toInt32)), (.int (ci3.toInt8.toInt32)), (.int (ci4.toInt8.toInt32)), (.int (ci5.toInt8.toInt32))] (.int (0 : Int32))) :
    own_CN l Z y17 jdk_65_method_133_code 5 (some (.array .byte)) [] R22_104 #[(.ref ra0), (.int (0 : Int32)), (.int (3 : Int32))] h0 (Q22_104 Z ra0 kc1 ci2 ci3 ci4 ci5 h0 n0) := by
  refine own_entryN (plainFor_of_name pn_5) fun p e s m below meth c s₁ hx hby hml hown hnm hret hlk hZ hh X0 e0 => ?_
  have N0 := Fr.nil n0
  rw [ef_22_104 m ra0]
  refine og s₁ (mkF m 2 #[vR ra0, vI (0 : Int32), vI (3 : Int32), vU, vU] [(.int (3 : Int32)), (.int (0 : Int32))]) (fun _ k => XS.iloadN X0.here hx rfl (hb hby d22_0) rfl (XS.iloadN X0.here hx rfl (hb hby d22_1) rfl k)) ?_
  obtain ⟨_, _, ⟨T1, L1, k1, n1⟩, -, X1, ⟨Lc1, hQ1, l1, y1, z1⟩, st1⟩ := Jvm.LawKit.callS X0 hx (y := y16) hown (mvT hZ (own_w hw 103)) (mvT hZ (own_w hw 104)) (mvT hZ (own_w hw 98)) (mvT hZ (own_w hw 105)) (by decide) (backOf (W := 0) (rm23_105 l Z a0 hw  h0 n0 OLD ) hZ (own_w hw 105) (own_w hw 98) (lb rfl) (lb rfl)) (g := (mkF m 2 #[vR ra0, vI (0 : Int32), vI (3 : Int32), vU, vU] [(.int (3 : Int32)), (.int (0 : Int32))])) rfl (by rw [hml]; rfl) (argsL := [(.int (0 : Int32)), (.int (3 : Int32))]) (rest := []) (lenOf pd_14 rfl) rfl (lb rfl) (hb hby d22_2) (fun _ _ => ⟨rfl, e0, (lb rfl), (lb rfl)⟩)
  dsimp only [Pt.U, Pt.locs, Pt.cells, Pt.slots] at X1 l1 y1 z1 st1 hQ1
  subst l1 y1 z1
  obtain ⟨rfl, Nq1, eq1⟩ := hQ1
  have N1 := Fr.app N0 Nq1
  refine og T1 (mkF m 5 #[vR ra0, vI (0 : Int32), vI (3 : Int32), vU, vU] []) st1 ?_
  refine og T1 (mkF m 10 #[vR ra0, vI (0 : Int32), vI (3 : Int32), vI (3 : Int32), vU] [(.int (3 : Int32))]) (fun _ k => XS.iloadN X1.here hx rfl (hb hby d22_5) rfl (XS.iloadN X1.here hx rfl (hb hby d22_6) rfl (XS.isub X1.here hx rfl (hb hby d22_7) rfl (XS.istoreN X1.here hx rfl (hb hby d22_8) rfl (l' := #[vR ra0, vI (0 : Int32), vI (3 : Int32), vI (3 : Int32), vU]) rfl (XS.iloadN X1.here hx rfl (hb hby d22_9) rfl k))))) ?_
  obtain ⟨T2, h2, k2, X2, e2, E2, A2, st2⟩ := newP X1 hx hZ (own_w hw 20) eq1 (g := (mkF m 10 #[vR ra0, vI (0 : Int32), vI (3 : Int32), vI (3 : Int32), vU] [(.int (3 : Int32))])) rfl (hb hby d22_10) rfl (by decide) (cap := 3) (by decide) (lb rfl) (lb rfl) (lb rfl)
  obtain ⟨b2, gb2⟩ : ∃ z, z = h0.size := ⟨_, rfl⟩
  rw [← gb2] at A2 st2
  have g3 : n0 ≤ b2 := Nat.le_trans (own_osz OLD) (Nat.le_of_eq gb2.symm)
  have z4 : h0.size ≤ b2 := Nat.le_trans (Nat.le_refl _) (Nat.le_of_eq gb2.symm)
  have V2 : Arv Z h2 b2 k2 .byte (3 : Int32) [(.int (0 : Int32)), (.int (0 : Int32)), (.int (0 : Int32))] (.int (0 : Int32)) := (Arv.new A2 (by decide)).pad (pad_rep [] (.int (0 : Int32)) 3)
  refine og T2 (mkF m 12 #[vR ra0, vI (0 : Int32), vI (3 : Int32), vI (3 : Int32), vU] [(.ref b2)]) st2 ?_
  refine og T2 (mkF m 20 #[vR ra0, vI (0 : Int32), vI (3 : Int32), vI (3 : Int32), vR b2] [(.ref ra0), (.int (0 : Int32)), (.ref b2), (.int (0 : Int32)), (.ref ra0)]) (fun _ k => XS.astore X2.here hx rfl (hb hby d22_12) rfl rfl (l' := #[vR ra0, vI (0 : Int32), vI (3 : Int32), vI (3 : Int32), vR b2]) rfl (XS.aloadN X2.here hx rfl (hb hby d22_14) rfl rfl (XS.iloadN X2.here hx rfl (hb hby d22_15) rfl (XS.aload X2.here hx rfl (hb hby d22_16) rfl rfl (XS.iconst X2.here hx rfl (hb hby d22_18) (XS.aloadN X2.here hx rfl (hb hby d22_19) rfl rfl k)))))) ?_
  have F5 := (V_ra0.ext E2)
  obtain ⟨cl6, Ar6, -, Sr6, Nr6, -, -⟩ := id F5
  refine og T2 (mkF m 21 #[vR ra0, vI (0 : Int32), vI (3 : Int32), vI (3 : Int32), vR b2] [(.int (4 : Int32)), (.int (0 : Int32)), (.ref b2), (.int (0 : Int32)), (.ref ra0)]) (fun t k => X2.arraylength hx (by rw [e2]; exact Ar6.1) (State.isArrayOf_alike hZ.alike Ar6.2.1) (g := (mkF m 20 #[vR ra0, vI (0 : Int32), vI (3 : Int32), vI (3 : Int32), vR b2] [(.ref ra0), (.int (0 : Int32)), (.ref b2), (.int (0 : Int32)), (.ref ra0)])) rfl rfl (hb hby d22_20) t (by rw [len_of Sr6 Nr6]; exact k)) ?_
  refine og T2 (mkF m 24 #[vR ra0, vI (0 : Int32), vI (3 : Int32), vI (3 : Int32), vR b2] [(.int (3 : Int32)), (.int (4 : Int32)), (.int (0 : Int32)), (.ref b2), (.int (0 : Int32)), (.ref ra0)]) (fun _ k => XS.iloadN X2.here hx rfl (hb hby d22_21) rfl (XS.isub X2.here hx rfl (hb hby d22_22) rfl (XS.iloadN X2.here hx rfl (hb hby d22_23) rfl k))) ?_
  have F7 := (OLD.ext E2)
  obtain ⟨_, _, ⟨T8, L8, k8, n8⟩, -, X8, ⟨Lc8, hQ8, l8, y8, z8⟩, st8⟩ := Jvm.LawKit.callS X2 hx (y := y6) hown (mvT hZ (own_w hw 106)) (mvT hZ (own_w hw 65)) (mvT hZ (own_w hw 66)) (mvT hZ (own_w hw 67)) (by decide) (backOf (W := 4) (rm13_106 l Z a0 hw  h2 n0 F7 ) hZ (own_w hw 67) (own_w hw 66) (lb rfl) (lb rfl)) (g := (mkF m 24 #[vR ra0, vI (0 : Int32), vI (3 : Int32), vI (3 : Int32), vR b2] [(.int (3 : Int32)), (.int (4 : Int32)), (.int (0 : Int32)), (.ref b2), (.int (0 : Int32)), (.ref ra0)])) rfl (by rw [hml]; rfl) (argsL := [(.int (4 : Int32)), (.int (3 : Int32))]) (rest := [(.int (0 : Int32)), (.ref b2), (.int (0 : Int32)), (.ref ra0)]) (lenOf pd_6 rfl) rfl (lb rfl) (hb hby d22_24) (fun _ _ => ⟨rfl, e2, (lb rfl), (lb rfl)⟩)
  dsimp only [Pt.U, Pt.locs, Pt.cells, Pt.slots] at X8 l8 y8 z8 st8 hQ8
  subst l8 y8 z8
  obtain ⟨rfl, Nq8, eq8⟩ := hQ8
  have N8 := Fr.app N1 Nq8
  refine og T8 (mkF m 27 #[vR ra0, vI (0 : Int32), vI (3 : Int32), vI (3 : Int32), vR b2] [(.int (3 : Int32)), (.int (0 : Int32)), (.ref b2), (.int (0 : Int32)), (.ref ra0)]) st8 ?_
  obtain ⟨T9, h9, L9, X9, e9, N9, K9, Vq9, st9⟩ := cpA X8 hx hZ hown (own_w hw 107) (own_w hw 110) (own_w hw 108) (own_w hw 109) eq8 F5 V2 (us := [(.int (ci2.toInt8.toInt32)), (.int (ci3.toInt8.toInt32)), (.int (ci4.toInt8.toInt32))]) (Or.inl ⟨rfl, rfl⟩) (by decide) (by decide) (by decide) (by decide) (by decide) rfl (by decide) N8 g3 (g := (mkF m 27 #[vR ra0, vI (0 : Int32), vI (3 : Int32), vI (3 : Int32), vR b2] [(.int (3 : Int32)), (.int (0 : Int32)), (.ref b2), (.int (0 : Int32)), (.ref ra0)])) rfl (by rw [hml]; rfl) rfl (hb hby d22_27) (lb rfl) (W := 0) (lb rfl) (lb rfl)
  have V9 : Arv Z h9 b2 k2 .byte (3 : Int32) [(.int (ci2.toInt8.toInt32)), (.int (ci3.toInt8.toInt32)), (.int (ci4.toInt8.toInt32))] (.int (0 : Int32)) := Vq9
  refine og T9 (mkF m 30 #[vR ra0, vI (0 : Int32), vI (3 : Int32), vI (3 : Int32), vR b2] []) st9 ?_
  refine og T9 (mkF m 32 #[vR ra0, vI (0 : Int32), vI (3 : Int32), vI (3 : Int32), vR b2] [(.ref b2)]) (fun _ k => XS.aload X9.here hx rfl (hb hby d22_30) rfl rfl k) ?_
  have KEEP := (((Keep.refl h0 []).ext E2).trans K9 (allS (Or.inr z4) all0))
  exact own_leaveN X9 hlk (v := some (.ref b2)) (fun h => by rw [hret] at h; cases h) (lb rfl) (lb rfl) (by rw [e9]; exact ⟨b2, k2, rfl, N9, KEEP, z4, V9⟩) (fun fs hr => retOut X9 hx (t := (.array .byte)) hret rfl (Or.inr (Or.inr (Or.inr (Or.inr ⟨rfl, rfl, rfl⟩)))) (hb hby d22_32) hr)
abbrev R21_103 : Room := { frames := 2, cells := 1, slots := 3, locals := 34 }
def Q21_103 (Z : State) (ra0 : Addr) (kc1 : ClassId) (ci2 : Int32) (ci3 : Int32) (ci4 : Int32) (ci5 : Int32) (h0 : Heap) (n0 : Nat) (v : Option Value) (h : Heap) (L : List Loc) : Prop := (∃ (o3 : Addr) (kc4 : ClassId), v = some (.ref o3) ∧ Fr n0 L ∧ Keep h0 h [] ∧ h0.size ≤ o3 ∧ Arv Z h o3 kc4 .byte (3 : Int32) [(.int (ci2.toInt8.toInt32)), (.int (ci3.toInt8.toInt32)), (.int (ci4.toInt8.toInt32))] (.int (0 : Int32)))
theorem rm21_103 (l : Launch) (Z : State) (a0 : Array Value) (hw : HW Z a0) (ra0 : Addr) (kc1 : ClassId) (ci2 : Int32) (ci3 : Int32) (ci4 : Int32) (ci5 : Int32) (h0 : Heap) (n0 : Nat) (OLD : Old Z n0 h0) (hl_ci2 : ¬ ci2 < 0 ∧ ¬ (255 : Int32) < ci2) (hl_ci3 : ¬ ci3 < 0 ∧ ¬ (255 : Int32) < ci3) (hl_ci4 : ¬ ci4 < 0 ∧ ¬ (255 : Int32) < ci4) (hl_ci5 : ¬ ci5 < 0 ∧ ¬ (255 : Int32) < ci5) (V_ra0 : Arv Z h0 ra0 kc1 .byte (4 : Int32) [(.int (ci2.toInt8.toInt32)), (.int (ci3.toInt8.toInt32)), (.int (ci4.toInt8.toInt32)), (.int (ci5.toInt8.toInt32))] (.int (0 : Int32))) :
    own_CN l Z y18 jdk_65_method_132_code 3 (some (.array .byte)) [] R21_103 #[(.ref ra0), (.int (0 : Int32)), (.int (3 : Int32))] h0 (Q21_103 Z ra0 kc1 ci2 ci3 ci4 ci5 h0 n0) := by
  refine own_entryN (plainFor_of_name pn_5) fun p e s m below meth c s₁ hx hby hml hown hnm hret hlk hZ hh X0 e0 => ?_
  have N0 := Fr.nil n0
  rw [ef_21_103 m ra0]
  refine og s₁ (mkF m 6 #[vR ra0, vI (0 : Int32), vI (3 : Int32)] [(.ref ra0), (.int (3 : Int32))]) (fun _ k => XS.iloadN X0.here hx rfl (hb hby d21_0) rfl (XS.ifNo X0.here hx rfl (hb hby d21_1) rfl ((if0 _ _).trans (teq (by decide : (0 : Int32) = (0 : Int32))).2) (XS.iloadN X0.here hx rfl (hb hby d21_4) rfl (XS.aloadN X0.here hx rfl (hb hby d21_5) rfl rfl k)))) ?_
  obtain ⟨cl1, Ar1, -, Sr1, Nr1, -, -⟩ := id V_ra0
  refine og s₁ (mkF m 7 #[vR ra0, vI (0 : Int32), vI (3 : Int32)] [(.int (4 : Int32)), (.int (3 : Int32))]) (fun t k => X0.arraylength hx (by rw [e0]; exact Ar1.1) (State.isArrayOf_alike hZ.alike Ar1.2.1) (g := (mkF m 6 #[vR ra0, vI (0 : Int32), vI (3 : Int32)] [(.ref ra0), (.int (3 : Int32))])) rfl rfl (hb hby d21_6) t (by rw [len_of Sr1 Nr1]; exact k)) ?_
  refine og s₁ (mkF m 13 #[vR ra0, vI (0 : Int32), vI (3 : Int32)] [(.int (3 : Int32)), (.int (0 : Int32)), (.ref ra0)]) (fun _ k => XS.icmpNo X0.here hx rfl (hb hby d21_7) rfl (feq (by decide : ¬ ((3 : Int32) = (4 : Int32)))).1 (XS.aloadN X0.here hx rfl (hb hby d21_10) rfl rfl (XS.iloadN X0.here hx rfl (hb hby d21_11) rfl (XS.iloadN X0.here hx rfl (hb hby d21_12) rfl k)))) ?_
  obtain ⟨_, _, ⟨T2, L2, k2, n2⟩, -, X2, ⟨Lc2, hQ2, l2, y2, z2⟩, st2⟩ := Jvm.LawKit.callS X0 hx (y := y17) hown (mvT hZ (own_w hw 100)) (mvT hZ (own_w hw 101)) (mvT hZ (own_w hw 98)) (mvT hZ (own_w hw 102)) (by decide) (backOf (W := 0) (rm22_104 l Z a0 hw ra0 kc1 ci2 ci3 ci4 ci5 h0 n0 OLD hl_ci2 hl_ci3 hl_ci4 hl_ci5 V_ra0) hZ (own_w hw 102) (own_w hw 98) (lb rfl) (lb rfl)) (g := (mkF m 13 #[vR ra0, vI (0 : Int32), vI (3 : Int32)] [(.int (3 : Int32)), (.int (0 : Int32)), (.ref ra0)])) rfl (by rw [hml]; rfl) (argsL := [(.ref ra0), (.int (0 : Int32)), (.int (3 : Int32))]) (rest := []) (lenOf pd_15 rfl) rfl (lb rfl) (hb hby d21_13) (fun _ _ => ⟨rfl, e0, (lb rfl), (lb rfl)⟩)
  dsimp only [Pt.U, Pt.locs, Pt.cells, Pt.slots] at X2 l2 y2 z2 st2 hQ2
  subst l2 y2 z2
  obtain ⟨o3, kc4, rfl, Nq2, K2, f5, f6⟩ := hQ2
  have N2 := Fr.app N0 Nq2
  have g7 : n0 ≤ o3 := Nat.le_trans (own_osz OLD) f5
  have z8 : h0.size ≤ o3 := Nat.le_trans (Nat.le_refl _) f5
  refine og T2 (mkF m 16 #[vR ra0, vI (0 : Int32), vI (3 : Int32)] [(.ref o3)]) st2 ?_
  have KEEP := ((Keep.refl h0 []).trans K2 all0)
  exact own_leaveN X2 hlk (v := some (.ref o3)) (fun h => by rw [hret] at h; cases h) (lb rfl) (lb rfl) (by exact ⟨o3, kc4, rfl, N2, KEEP, z8, f6⟩) (fun fs hr => retOut X2 hx (t := (.array .byte)) hret rfl (Or.inr (Or.inr (Or.inr (Or.inr ⟨rfl, rfl, rfl⟩)))) (hb hby d21_16) hr)
abbrev R24_107 : Room := { frames := 1, cells := 0, slots := 0, locals := 12 }
def Q24_107 (Z : State) (ra0 : Addr) (ra1 : Addr) (kc2 : ClassId) (ci3 : Int32) (ci4 : Int32) (ci5 : Int32) (h0 : Heap) (n0 : Nat) (v : Option Value) (h : Heap) (L : List Loc) : Prop := (v = none ∧ Fr n0 L ∧ Keep h0 h [ra0] ∧ Fld Z h ra0 "java/lang/String" "coder" "B" (.int (0 : Int32)) ∧ Fld Z h ra0 "java/lang/String" "value" "[B" (.ref ra1))
theorem rm24_107 (l : Launch) (Z : State) (a0 : Array Value) (hw : HW Z a0) (ra0 : Addr) (ra1 : Addr) (kc2 : ClassId) (ci3 : Int32) (ci4 : Int32) (ci5 : Int32) (h0 : Heap) (n0 : Nat) (OLD : Old Z n0 h0) (E_ra0 : Exa Z h0 ra0 "java/lang/String") (F_coder_ra0 : Fld Z h0 ra0 "java/lang/String" "coder" "B" (.int (0 : Int32))) (F_value_ra0 : Fld Z h0 ra0 "java/lang/String" "value" "[B" .null) (hl_ci3 : ¬ ci3 < 0 ∧ ¬ (255 : Int32) < ci3) (hl_ci4 : ¬ ci4 < 0 ∧ ¬ (255 : Int32) < ci4) (hl_ci5 : ¬ ci5 < 0 ∧ ¬ (255 : Int32) < ci5) (V_ra1 : Arv Z h0 ra1 kc2 .byte (3 : Int32) [(.int (ci3.toInt8.toInt32)), (.int (ci4.toInt8.toInt32)), (.int (ci5.toInt8.toInt32))] (.int (0 : Int32))) (ge_ra0 : n0 ≤ ra0) :
    own_CN l Z y19 jdk_42_method_151_code 3 none [] R24_107 #[(.ref ra0), (.ref ra1), (.int (0 : Int32))] h0 (Q24_107 Z ra0 ra1 kc2 ci3 ci4 ci5 h0 n0) := by
  refine own_entryN (plainFor_of_name pn_1) fun p e s m below meth c s₁ hx hby hml hown hnm hret hlk hZ hh X0 e0 => ?_
  have N0 := Fr.nil n0
  rw [ef_24_107 m ra0 ra1]
  refine og s₁ (mkF m 1 #[vR ra0, vR ra1, vI (0 : Int32)] [(.ref ra0)]) (fun _ k => XS.aloadN X0.here hx rfl (hb hby d24_0) rfl rfl k) ?_
  obtain ⟨T1, X1, e1, st1⟩ := initO X0 hx hZ hown (own_w hw 16) (own_w hw 17) (own_w hw 18) e0 (g := (mkF m 1 #[vR ra0, vR ra1, vI (0 : Int32)] [(.ref ra0)])) rfl (by rw [hml]; rfl) rfl (hb hby d24_1) (by decide) (W := 0) (lb rfl) (by decide)
  refine og T1 (mkF m 4 #[vR ra0, vR ra1, vI (0 : Int32)] []) st1 ?_
  refine og T1 (mkF m 6 #[vR ra0, vR ra1, vI (0 : Int32)] [(.ref ra1), (.ref ra0)]) (fun _ k => XS.aloadN X1.here hx rfl (hb hby d24_4) rfl rfl (XS.aloadN X1.here hx rfl (hb hby d24_5) rfl rfl k)) ?_
  obtain ⟨T2, h2, X2, e2, W2, st2⟩ := putF X1 hx hZ hown (host := "") (Or.inl (own_w hw 25)) Via.refl e1 F_value_ra0 E_ra0 (Or.inr ⟨(own_w hw 21), rfl, hnm⟩) (own_w hw 7) (ty := (.array .byte)) (by decide) rfl rfl (g := (mkF m 6 #[vR ra0, vR ra1, vI (0 : Int32)] [(.ref ra1), (.ref ra0)])) rfl rfl (hb hby d24_6)
  have Fw2 := F_value_ra0.same W2
  have N2 := Fr.snoc X2 N0 ge_ra0
  refine og T2 (mkF m 9 #[vR ra0, vR ra1, vI (0 : Int32)] []) st2 ?_
  refine og T2 (mkF m 11 #[vR ra0, vR ra1, vI (0 : Int32)] [(.int (0 : Int32)), (.ref ra0)]) (fun _ k => XS.aloadN X2.here hx rfl (hb hby d24_9) rfl rfl (XS.iloadN X2.here hx rfl (hb hby d24_10) rfl k)) ?_
  have F3 := (E_ra0.wr W2)
  have F4 := (F_coder_ra0.other W2 (Or.inr (slot_ne (Or.inr (own_w hw 22)) (Or.inr (own_w hw 21)) (by decide) (t := .byte) (t' := (.array .byte)) (by decide) (by decide))))
  obtain ⟨T5, h5, X5, e5, W5, st5⟩ := putFN X2 hx hZ hown (own_w hw 26) Via.refl e2 F4 F3 (Or.inr ⟨(own_w hw 22), rfl, hnm⟩) (own_w hw 7) (ty := .byte) (v' := (.int (nar .byte (0 : Int32)))) (by decide) rfl (fits_nar_byte _) (g := (mkF m 11 #[vR ra0, vR ra1, vI (0 : Int32)] [(.int (0 : Int32)), (.ref ra0)])) rfl rfl (hb hby d24_11)
  rw [show nar .byte (0 : Int32) = (0 : Int32) from rfl] at W5
  have Fw5 := F4.same W5
  have N5 := Fr.snoc X5 N2 ge_ra0
  refine og T5 (mkF m 14 #[vR ra0, vR ra1, vI (0 : Int32)] []) st5 ?_
  have F6 := (Fw2.other W5 (Or.inr (slot_ne (Or.inr (own_w hw 21)) (Or.inr (own_w hw 22)) (by decide) (t := (.array .byte)) (t' := .byte) (by decide) (by decide))))
  have KEEP := (((Keep.refl h0 [ra0]).wr W2 (Or.inl (List.mem_of_getElem? (i := 0) rfl))).wr W5 (Or.inl (List.mem_of_getElem? (i := 0) rfl)))
  exact own_leaveN X5 hlk (v := none) (fun _ => rfl) (lb rfl) (lb rfl) (by rw [e5]; exact ⟨rfl, N5, KEEP, Fw5, F6⟩) (fun fs hr => X5.returnOut hx hret (hb hby d24_14) hr)
abbrev R20_102 : Room := { frames := 3, cells := 2, slots := 7, locals := 50 }
def Q20_102 (Z : State) (ra0 : Addr) (kc1 : ClassId) (ci2 : Int32) (ci3 : Int32) (ci4 : Int32) (ci5 : Int32) (h0 : Heap) (n0 : Nat) (v : Option Value) (h : Heap) (L : List Loc) : Prop := (∃ (b1 : Addr) (o7 : Addr) (kc8 : ClassId), v = some (.ref b1) ∧ Fr n0 L ∧ Keep h0 h [] ∧ h0.size ≤ b1 ∧ h0.size ≤ o7 ∧ Exa Z h b1 "java/lang/String" ∧ Fld Z h b1 "java/lang/String" "coder" "B" (.int (0 : Int32)) ∧ Fld Z h b1 "java/lang/String" "value" "[B" (.ref o7) ∧ Arv Z h o7 kc8 .byte (3 : Int32) [(.int (ci2.toInt8.toInt32)), (.int (ci3.toInt8.toInt32)), (.int (ci4.toInt8.toInt32))] (.int (0 : Int32)))
theorem rm20_102 (l : Launch) (Z : State) (a0 : Array Value) (hw : HW Z a0) (ra0 : Addr) (kc1 : ClassId) (ci2 : Int32) (ci3 : Int32) (ci4 : Int32) (ci5 : Int32) (h0 : Heap) (n0 : Nat) (OLD : Old Z n0 h0) (hl_ci2 : ¬ ci2 < 0 ∧ ¬ (255 : Int32) < ci2) (hl_ci3 : ¬ ci3 < 0 ∧ ¬ (255 : Int32) < ci3) (hl_ci4 : ¬ ci4 < 0 ∧ ¬ (255 : Int32) < ci4) (hl_ci5 : ¬ ci5 < 0 ∧ ¬ (255 : Int32) < ci5) (V_ra0 : Arv Z h0 ra0 kc1 .byte (4 : Int32) [(.int (ci2.toInt8.toInt32)), (.int (ci3.toInt8.toInt32)), (.int (ci4.toInt8.toInt32)), (.int (ci5.toInt8.toInt32))] (.int (0 : Int32))) :
    own_CN l Z y14 jdk_43_method_47_code 3 (some (.object "java/lang/String")) [] R20_102 #[(.ref ra0), (.int (0 : Int32)), (.int (3 : Int32))] h0 (Q20_102 Z ra0 kc1 ci2 ci3 ci4 ci5 h0 n0) := by
  refine own_entryN (plainFor_of_name pn_2) fun p e s m below meth c s₁ hx hby hml hown hnm hret hlk hZ hh X0 e0 => ?_
  have N0 := Fr.nil n0
  rw [ef_20_102 m ra0]
  refine og s₁ (mkF m 7 #[vR ra0, vI (0 : Int32), vI (3 : Int32)] []) (fun _ k => XS.iloadN X0.here hx rfl (hb hby d20_0) rfl (XS.ifYes X0.here hx rfl (pc0 := 1) (pc' := 7) rfl (hb hby d20_1) rfl ((if0 _ _).trans (feq (by decide : ¬ ((3 : Int32) = (0 : Int32)))).2) (by decide) (by decide) k)) ?_
  obtain ⟨T1, h1, X1, e1, E1, A1, D1, -, st1⟩ := newO X0 hx hZ hown (own_w hw 95) (own_w hw 7) (own_w hw 8) e0 (g := (mkF m 7 #[vR ra0, vI (0 : Int32), vI (3 : Int32)] [])) rfl (hb hby d20_7) (lb rfl) (lb rfl)
  obtain ⟨b1, gb1⟩ : ∃ z, z = h0.size := ⟨_, rfl⟩
  rw [← gb1] at A1 D1 st1
  have g2 : n0 ≤ b1 := Nat.le_trans (own_osz OLD) (Nat.le_of_eq gb1.symm)
  have z3 : h0.size ≤ b1 := Nat.le_trans (Nat.le_refl _) (Nat.le_of_eq gb1.symm)
  refine og T1 (mkF m 10 #[vR ra0, vI (0 : Int32), vI (3 : Int32)] [(.ref b1)]) st1 ?_
  refine og T1 (mkF m 16 #[vR ra0, vI (0 : Int32), vI (3 : Int32)] [(.int (3 : Int32)), (.int (0 : Int32)), (.ref ra0), (.ref b1), (.ref b1)]) (fun _ k => XS.dup X1.here hx rfl (hb hby d20_10) rfl rfl (XS.aloadN X1.here hx rfl (hb hby d20_11) rfl rfl (XS.iloadN X1.here hx rfl (hb hby d20_12) rfl (XS.iloadN X1.here hx rfl (hb hby d20_13) rfl (XS.iloadN X1.here hx rfl (hb hby d20_14) rfl (XS.iadd X1.here hx rfl (hb hby d20_15) rfl k)))))) ?_
  have F4 := (V_ra0.ext E1)
  have F5 := (OLD.ext E1)
  obtain ⟨_, _, ⟨T6, L6, k6, n6⟩, -, X6, ⟨Lc6, hQ6, l6, y6, z6⟩, st6⟩ := Jvm.LawKit.callS X1 hx (y := y18) hown (mvT hZ (own_w hw 96)) (mvT hZ (own_w hw 97)) (mvT hZ (own_w hw 98)) (mvT hZ (own_w hw 99)) (by decide) (backOf (W := 2) (rm21_103 l Z a0 hw ra0 kc1 ci2 ci3 ci4 ci5 h1 n0 F5 hl_ci2 hl_ci3 hl_ci4 hl_ci5 F4) hZ (own_w hw 99) (own_w hw 98) (lb rfl) (lb rfl)) (g := (mkF m 16 #[vR ra0, vI (0 : Int32), vI (3 : Int32)] [(.int (3 : Int32)), (.int (0 : Int32)), (.ref ra0), (.ref b1), (.ref b1)])) rfl (by rw [hml]; rfl) (argsL := [(.ref ra0), (.int (0 : Int32)), (.int (3 : Int32))]) (rest := [(.ref b1), (.ref b1)]) (lenOf pd_15 rfl) rfl (lb rfl) (hb hby d20_16) (fun _ _ => ⟨rfl, e1, (lb rfl), (lb rfl)⟩)
  dsimp only [Pt.U, Pt.locs, Pt.cells, Pt.slots] at X6 l6 y6 z6 st6 hQ6
  subst l6 y6 z6
  obtain ⟨o7, kc8, rfl, Nq6, K6, f9, f10⟩ := hQ6
  have N6 := Fr.app N0 Nq6
  have g11 : n0 ≤ o7 := Nat.le_trans (own_osz F5) f9
  have F13 := (Nat.le_trans (Nat.le_refl _) E1.1)
  have z12 : h0.size ≤ o7 := Nat.le_trans F13 f9
  refine og T6 (mkF m 19 #[vR ra0, vI (0 : Int32), vI (3 : Int32)] [(.ref o7), (.ref b1), (.ref b1)]) st6 ?_
  refine og T6 (mkF m 20 #[vR ra0, vI (0 : Int32), vI (3 : Int32)] [(.int (0 : Int32)), (.ref o7), (.ref b1), (.ref b1)]) (fun _ k => XS.iconst X6.here hx rfl (hb hby d20_19) k) ?_
  have F14 := (A1.keep K6)
  have F15 := ((D1 (Or.inr (own_w hw 22)) (ty := .byte) (by decide)).keep K6 nin0)
  have F16 := ((D1 (Or.inr (own_w hw 21)) (ty := (.array .byte)) (by decide)).keep K6 nin0)
  have F17 := (F5.keep K6 all0)
  obtain ⟨_, _, ⟨T18, L18, k18, n18⟩, -, X18, ⟨Lc18, hQ18, l18, y18, z18⟩, st18⟩ := X6.specialBack hx (y := y19) rfl hown (mvT hZ (own_w hw 111)) (mvT hZ (own_w hw 112)) (mvT hZ (own_w hw 113)) (by decide) (backOf (W := 1) (rm24_107 l Z a0 hw b1 o7 kc8 ci2 ci3 ci4 T6.heap n0 F17 F14 F15 F16 hl_ci2 hl_ci3 hl_ci4 f10 g2) hZ (own_w hw 113) (own_w hw 8) (lb rfl) (lb rfl)) (g := (mkF m 20 #[vR ra0, vI (0 : Int32), vI (3 : Int32)] [(.int (0 : Int32)), (.ref o7), (.ref b1), (.ref b1)])) rfl (by rw [hml]; rfl) (Steps.refl _) (a := b1) (argsL := [(.ref o7), (.int (0 : Int32))]) (rest := [(.ref b1)]) (lenOf pd_16 rfl) rfl (lb rfl) (hb hby d20_20) (fun _ _ => ⟨rfl, rfl, (lb rfl), (lb rfl)⟩)
  dsimp only [Pt.U, Pt.locs, Pt.cells, Pt.slots] at X18 l18 y18 z18 st18 hQ18
  subst l18 y18 z18
  obtain ⟨rfl, Nq18, K18, f19, f20⟩ := hQ18
  have N18 := Fr.app N6 Nq18
  refine ot T18 (mkF m 23 #[vR ra0, vI (0 : Int32), vI (3 : Int32)] [(.ref b1)]) st18 ?_
  have F21 := (F14.keep K18)
  have F22 := (f10.keep K18 (ninS (Ne.symm (own_ne_lo A1.lt f9)) nin0))
  have KEEP := ((((Keep.refl h0 []).ext E1).trans K6 all0).trans K18 (allS (Or.inr z3) all0))
  exact own_leaveN X18 hlk (v := some (.ref b1)) (fun h => by rw [hret] at h; cases h) (lb rfl) (lb rfl) (by exact ⟨b1, o7, kc8, rfl, N18, KEEP, z3, z12, F21, f19, f20, F22⟩) (fun fs hr => retOut X18 hx (t := (.object "java/lang/String")) hret rfl (Or.inr (Or.inr (Or.inr (Or.inr ⟨rfl, rfl, rfl⟩)))) (hb hby d20_23) hr)
abbrev R14_99 : Room := { frames := 4, cells := 2, slots := 7, locals := 64 }
def Q14_99 (Z : State) (ra0 : Addr) (ra1 : Addr) (kc2 : ClassId) (ci3 : Int32) (ci4 : Int32) (ci5 : Int32) (ci6 : Int32) (G1 : Int32) (G3 : Value) (h0 : Heap) (n0 : Nat) (v : Option Value) (h : Heap) (L : List Loc) : Prop := (∃ (o7 : Addr) (o8 : Addr) (kc9 : ClassId), v = some (.ref o7) ∧ Fr n0 L ∧ Keep h0 h [] ∧ h0.size ≤ o7 ∧ h0.size ≤ o8 ∧ Exa Z h o7 "java/lang/String" ∧ Fld Z h o7 "java/lang/String" "coder" "B" (.int (0 : Int32)) ∧ Fld Z h o7 "java/lang/String" "value" "[B" (.ref o8) ∧ Arv Z h o8 kc9 .byte (3 : Int32) [(.int (ci3.toInt8.toInt32)), (.int (ci4.toInt8.toInt32)), (.int (ci5.toInt8.toInt32))] (.int (0 : Int32)))
theorem rm14_99 (l : Launch) (Z : State) (a0 : Array Value) (hw : HW Z a0) (ra0 : Addr) (ra1 : Addr) (kc2 : ClassId) (ci3 : Int32) (ci4 : Int32) (ci5 : Int32) (ci6 : Int32) (G1 : Int32) (G3 : Value) (h0 : Heap) (n0 : Nat) (OLD : Old Z n0 h0) (E_ra0 : Exa Z h0 ra0 "java/lang/String") (F_coder_ra0 : Fld Z h0 ra0 "java/lang/String" "coder" "B" (.int (0 : Int32))) (F_value_ra0 : Fld Z h0 ra0 "java/lang/String" "value" "[B" (.ref ra1)) (hl_ci3 : ¬ ci3 < 0 ∧ ¬ (255 : Int32) < ci3) (hl_ci4 : ¬ ci4 < 0 ∧ ¬ (255 : Int32) < ci4) (hl_ci5 : ¬ ci5 < 0 ∧ ¬ (255 : Int32) < ci5) (hl_ci6 : ¬ ci6 < 0 ∧ ¬ (255 : Int32) < ci6) (V_ra1 : Arv Z h0 ra1 kc2 .byte (4 : Int32) [(.int (ci3.toInt8.toInt32)), (.int (ci4.toInt8.toInt32)), (.int (ci5.toInt8.toInt32)), (.int (ci6.toInt8.toInt32))] (.int (0 : Int32))) (O2 : Sta Z Z.heap "java/lang/String" "COMPACT_STRINGS" "Z" (.int G1)) (P5 : ¬ (G1 = (0 : Int32))) (O4 : Sta Z Z.heap "jdk/internal/util/Preconditions" "SIOOBE_FORMATTER" "Ljava/util/function/BiFunction;" G3) (rG3 : G3.isRef = true) :
    own_CN l Z y12 jdk_42_method_92_code 5 (some (.object "java/lang/String")) [] R14_99 #[(.ref ra0), (.int (0 : Int32)), (.int (3 : Int32))] h0 (Q14_99 Z ra0 ra1 kc2 ci3 ci4 ci5 ci6 G1 G3 h0 n0) := by
  refine own_entryN (plainFor_of_name pn_1) fun p e s m below meth c s₁ hx hby hml hown hnm hret hlk hZ hh X0 e0 => ?_
  have N0 := Fr.nil n0
  rw [ef_14_99 m ra0]
  refine og s₁ (mkF m 1 #[vR ra0, vI (0 : Int32), vI (3 : Int32), vU, vU] [(.ref ra0)]) (fun _ k => XS.aloadN X0.here hx rfl (hb hby d14_0) rfl rfl k) ?_
  have hp1 : ∀ c ∈ ([ci3, ci4, ci5, ci6] : List Int32), ¬ c < 0 ∧ ¬ (255 : Int32) < c := by
    intro c hc
    simp only [List.mem_cons, List.not_mem_nil, or_false] at hc
    rcases hc with rfl | rfl | rfl | rfl
    · exact hl_ci3
    · exact hl_ci4
    · exact hl_ci5
    · exact hl_ci6
  obtain ⟨cq2, kq2, q2a, q2b, q2c⟩ := isOf hZ e0 E_ra0
  obtain ⟨_, _, ⟨T2, L2, k2, n2⟩, -, X2, ⟨Lc2, hQ2, l2, y2, z2⟩, st2⟩ := X0.virtualBack hx (y := y3) (z := y3) hown (mvT hZ (own_w hw 36)) (mvT hZ (own_w hw 37)) (notFace_of_selects (args := #[]) (mvT hZ (own_w hw 39))) (mvT hZ (own_w hw 39)) (mvT hZ (own_w hw 38)) (by decide) (StrChars.Road.lenW (W := 0) hZ (own_hln hw) (kI := 4) (own_w hw 7) (cs := ([ci3, ci4, ci5, ci6] : List Int32)) E_ra0 F_value_ra0 F_coder_ra0 V_ra1 (StrChars.Road.codOf rfl (fun c hc => (hp1 c hc).2)) (own_up _ hp1) (O2.ext OLD.2) P5 (lb rfl) (lb rfl) (lb rfl)) q2a q2c (g := (mkF m 1 #[vR ra0, vI (0 : Int32), vI (3 : Int32), vU, vU] [(.ref ra0)])) rfl (by rw [hml]; rfl) (Steps.refl _) (argsL := []) (rest := []) (lenOf pd_3 rfl) rfl (lb rfl) (hb hby d14_1) (fun _ _ => ⟨rfl, e0, (lb rfl), (lb rfl)⟩)
  dsimp only [Pt.U, Pt.locs, Pt.cells, Pt.slots] at X2 l2 y2 z2 st2 hQ2
  subst l2 y2 z2
  obtain ⟨rfl, rfl, eq2⟩ := hQ2
  have N2 := Fr.app N0 (Fr.nil n0)
  refine ot T2 (mkF m 4 #[vR ra0, vI (0 : Int32), vI (3 : Int32), vU, vU] [(.int (4 : Int32))]) st2 ?_
  refine og T2 (mkF m 8 #[vR ra0, vI (0 : Int32), vI (3 : Int32), vI (4 : Int32), vU] [(.int (4 : Int32)), (.int (3 : Int32)), (.int (0 : Int32))]) (fun _ k => XS.istoreN X2.here hx rfl (hb hby d14_4) rfl (l' := #[vR ra0, vI (0 : Int32), vI (3 : Int32), vI (4 : Int32), vU]) rfl (XS.iloadN X2.here hx rfl (hb hby d14_5) rfl (XS.iloadN X2.here hx rfl (hb hby d14_6) rfl (XS.iloadN X2.here hx rfl (hb hby d14_7) rfl k)))) ?_
  obtain ⟨_, _, ⟨T3, L3, k3, n3⟩, -, X3, ⟨Lc3, hQ3, l3, y3, z3⟩, st3⟩ := Jvm.LawKit.callS X2 hx (y := y11) hown (mvT hZ (own_w hw 73)) (mvT hZ (own_w hw 74)) (mvT hZ (own_w hw 8)) (mvT hZ (own_w hw 75)) (by decide) (backOf (W := 0) (rm15_100 l Z a0 hw G3 h0 n0 OLD O4 rG3) hZ (own_w hw 75) (own_w hw 8) (lb rfl) (lb rfl)) (g := (mkF m 8 #[vR ra0, vI (0 : Int32), vI (3 : Int32), vI (4 : Int32), vU] [(.int (4 : Int32)), (.int (3 : Int32)), (.int (0 : Int32))])) rfl (by rw [hml]; rfl) (argsL := [(.int (0 : Int32)), (.int (3 : Int32)), (.int (4 : Int32))]) (rest := []) (lenOf pd_10 rfl) rfl (lb rfl) (hb hby d14_8) (fun _ _ => ⟨rfl, eq2, (lb rfl), (lb rfl)⟩)
  dsimp only [Pt.U, Pt.locs, Pt.cells, Pt.slots] at X3 l3 y3 z3 st3 hQ3
  subst l3 y3 z3
  obtain ⟨rfl, Nq3, eq3⟩ := hQ3
  have N3 := Fr.app N2 Nq3
  refine og T3 (mkF m 11 #[vR ra0, vI (0 : Int32), vI (3 : Int32), vI (4 : Int32), vU] []) st3 ?_
  refine og T3 (mkF m 28 #[vR ra0, vI (0 : Int32), vI (3 : Int32), vI (4 : Int32), vI (3 : Int32)] [(.ref ra0)]) (fun _ k => XS.iloadN X3.here hx rfl (hb hby d14_11) rfl (XS.ifNo X3.here hx rfl (hb hby d14_12) rfl ((if0 _ _).trans (teq (by decide : (0 : Int32) = (0 : Int32))).2) (XS.iloadN X3.here hx rfl (hb hby d14_15) rfl (XS.iloadN X3.here hx rfl (hb hby d14_16) rfl (XS.icmpYes X3.here hx rfl (pc0 := 17) (pc' := 22) rfl (hb hby d14_17) rfl (feq (by decide : ¬ ((3 : Int32) = (4 : Int32)))).2 (by decide) (by decide) (XS.iloadN X3.here hx rfl (hb hby d14_22) rfl (XS.iloadN X3.here hx rfl (hb hby d14_23) rfl (XS.isub X3.here hx rfl (hb hby d14_24) rfl (XS.istore X3.here hx rfl (hb hby d14_25) rfl (l' := #[vR ra0, vI (0 : Int32), vI (3 : Int32), vI (4 : Int32), vI (3 : Int32)]) rfl (XS.aloadN X3.here hx rfl (hb hby d14_27) rfl rfl k)))))))))) ?_
  obtain ⟨cq4, kq4, q4a, q4b, q4c⟩ := isOf hZ eq3 E_ra0
  obtain ⟨_, _, ⟨T4, L4, k4, n4⟩, -, X4, ⟨Lc4, hQ4, l4, y4, z4⟩, st4⟩ := X3.virtualBack hx (y := y4) (z := y4) hown (mvT hZ (own_w hw 52)) (mvT hZ (own_w hw 53)) (notFace_of_selects (args := #[]) (mvT hZ (own_w hw 55))) (mvT hZ (own_w hw 55)) (mvT hZ (own_w hw 54)) (by decide) (backOf (W := 0) (rm10_93 l Z a0 hw ra0 ra1 kc2 ci3 ci4 ci5 ci6 G1 h0 n0 OLD E_ra0 F_coder_ra0 F_value_ra0 hl_ci3 hl_ci4 hl_ci5 hl_ci6 V_ra1 O2 P5) hZ (own_w hw 56) (own_w hw 8) (lb rfl) (lb rfl)) q4a q4c (g := (mkF m 28 #[vR ra0, vI (0 : Int32), vI (3 : Int32), vI (4 : Int32), vI (3 : Int32)] [(.ref ra0)])) rfl (by rw [hml]; rfl) (Steps.refl _) (argsL := []) (rest := []) (lenOf pd_4 rfl) rfl (lb rfl) (hb hby d14_28) (fun _ _ => ⟨rfl, eq3, (lb rfl), (lb rfl)⟩)
  dsimp only [Pt.U, Pt.locs, Pt.cells, Pt.slots] at X4 l4 y4 z4 st4 hQ4
  subst l4 y4 z4
  obtain ⟨rfl, Nq4, eq4⟩ := hQ4
  have N4 := Fr.app N3 Nq4
  refine ot T4 (mkF m 31 #[vR ra0, vI (0 : Int32), vI (3 : Int32), vI (4 : Int32), vI (3 : Int32)] [(.int (1 : Int32))]) st4 ?_
  refine og T4 (mkF m 35 #[vR ra0, vI (0 : Int32), vI (3 : Int32), vI (4 : Int32), vI (3 : Int32)] [(.ref ra0)]) (fun _ k => XS.ifNo X4.here hx rfl (hb hby d14_31) rfl ((if0 _ _).trans (feq (by decide : ¬ ((1 : Int32) = (0 : Int32)))).1) (XS.aloadN X4.here hx rfl (hb hby d14_34) rfl rfl k)) ?_
  obtain ⟨T5, X5, e5, st5⟩ := getF X4 hx hZ hown (host := "") (Or.inl (own_w hw 25)) Via.refl eq4 F_value_ra0 (g := (mkF m 35 #[vR ra0, vI (0 : Int32), vI (3 : Int32), vI (4 : Int32), vI (3 : Int32)] [(.ref ra0)])) rfl rfl (hb hby d14_35)
  refine og T5 (mkF m 38 #[vR ra0, vI (0 : Int32), vI (3 : Int32), vI (4 : Int32), vI (3 : Int32)] [(.ref ra1)]) st5 ?_
  refine og T5 (mkF m 41 #[vR ra0, vI (0 : Int32), vI (3 : Int32), vI (4 : Int32), vI (3 : Int32)] [(.int (3 : Int32)), (.int (0 : Int32)), (.ref ra1)]) (fun _ k => XS.iloadN X5.here hx rfl (hb hby d14_38) rfl (XS.iload X5.here hx rfl (hb hby d14_39) rfl k)) ?_
  obtain ⟨_, _, ⟨T6, L6, k6, n6⟩, -, X6, ⟨Lc6, hQ6, l6, y6, z6⟩, st6⟩ := Jvm.LawKit.callS X5 hx (y := y14) hown (mvT hZ (own_w hw 92)) (mvT hZ (own_w hw 93)) (mvT hZ (own_w hw 59)) (mvT hZ (own_w hw 94)) (by decide) (backOf (W := 0) (rm20_102 l Z a0 hw ra1 kc2 ci3 ci4 ci5 ci6 h0 n0 OLD hl_ci3 hl_ci4 hl_ci5 hl_ci6 V_ra1) hZ (own_w hw 94) (own_w hw 59) (lb rfl) (lb rfl)) (g := (mkF m 41 #[vR ra0, vI (0 : Int32), vI (3 : Int32), vI (4 : Int32), vI (3 : Int32)] [(.int (3 : Int32)), (.int (0 : Int32)), (.ref ra1)])) rfl (by rw [hml]; rfl) (argsL := [(.ref ra1), (.int (0 : Int32)), (.int (3 : Int32))]) (rest := []) (lenOf pd_13 rfl) rfl (lb rfl) (hb hby d14_41) (fun _ _ => ⟨rfl, e5, (lb rfl), (lb rfl)⟩)
  dsimp only [Pt.U, Pt.locs, Pt.cells, Pt.slots] at X6 l6 y6 z6 st6 hQ6
  subst l6 y6 z6
  obtain ⟨o7, o8, kc9, rfl, Nq6, K6, f10, f11, f12, f13, f14, f15⟩ := hQ6
  have N6 := Fr.app N4 Nq6
  have g16 : n0 ≤ o7 := Nat.le_trans (own_osz OLD) f10
  have z17 : h0.size ≤ o7 := Nat.le_trans (Nat.le_refl _) f10
  have g18 : n0 ≤ o8 := Nat.le_trans (own_osz OLD) f11
  have z19 : h0.size ≤ o8 := Nat.le_trans (Nat.le_refl _) f11
  refine og T6 (mkF m 44 #[vR ra0, vI (0 : Int32), vI (3 : Int32), vI (4 : Int32), vI (3 : Int32)] [(.ref o7)]) st6 ?_
  refine og T6 (mkF m 57 #[vR ra0, vI (0 : Int32), vI (3 : Int32), vI (4 : Int32), vI (3 : Int32)] [(.ref o7)]) (fun _ k => XS.goto X6.here hx rfl (pc0 := 44) (pc' := 57) rfl (hb hby d14_44) (by decide) (by decide) k) ?_
  have KEEP := ((Keep.refl h0 []).trans K6 all0)
  exact own_leaveN X6 hlk (v := some (.ref o7)) (fun h => by rw [hret] at h; cases h) (lb rfl) (lb rfl) (by exact ⟨o7, o8, kc9, rfl, N6, KEEP, z17, z19, f12, f13, f14, f15⟩) (fun fs hr => retOut X6 hx (t := (.object "java/lang/String")) hret rfl (Or.inr (Or.inr (Or.inr (Or.inr ⟨rfl, rfl, rfl⟩)))) (hb hby d14_57) hr)
abbrev R16_110 : Room := { frames := 0, cells := 0, slots := 0, locals := 0 }
def Q16_110 (Z : State) (cv0 : Value) (h0 : Heap) (n0 : Nat) (v : Option Value) (h : Heap) (L : List Loc) : Prop := (v = some (.int (0 : Int32)) ∧ Fr n0 L ∧ h = h0)
theorem rm16_110 (l : Launch) (Z : State) (a0 : Array Value) (hw : HW Z a0) (cv0 : Value) (h0 : Heap) (n0 : Nat) (OLD : Old Z n0 h0) (rf_cv0 : cv0.isRef = true) :
    own_CN l Z y10 jdk_41_method_12_code 4 (some .int) [] R16_110 #[(.int (0 : Int32)), (.int (2 : Int32)), (.int (4 : Int32)), cv0] h0 (Q16_110 Z cv0 h0 n0) := by
  refine own_entryN (plainFor_of_name pn_3) fun p e s m below meth c s₁ hx hby hml hown hnm hret hlk hZ hh X0 e0 => ?_
  have N0 := Fr.nil n0
  rw [ef_16_110 m cv0 rf_cv0]
  refine og s₁ (mkF m 23 #[vI (0 : Int32), vI (2 : Int32), vI (4 : Int32), .val cv0] [(.int (0 : Int32))]) (fun _ k => XS.iloadN X0.here hx rfl (hb hby d16_0) rfl (XS.ifNo X0.here hx rfl (hb hby d16_1) rfl ((if0 _ _).trans (flt (by decide : ¬ ((0 : Int32) < (0 : Int32)))).1) (XS.iloadN X0.here hx rfl (hb hby d16_4) rfl (XS.iloadN X0.here hx rfl (hb hby d16_5) rfl (XS.icmpNo X0.here hx rfl (hb hby d16_6) rfl (flt (by decide : ¬ ((2 : Int32) < (0 : Int32)))).2.2.1 (XS.iloadN X0.here hx rfl (hb hby d16_9) rfl (XS.iloadN X0.here hx rfl (hb hby d16_10) rfl (XS.icmpYes X0.here hx rfl (pc0 := 11) (pc' := 22) rfl (hb hby d16_11) rfl (flt (by decide : ¬ ((4 : Int32) < (2 : Int32)))).2.2.2 (by decide) (by decide) (XS.iloadN X0.here hx rfl (hb hby d16_22) rfl k))))))))) ?_
  exact own_leaveN X0 hlk (v := some (.int (0 : Int32))) (fun h => by rw [hret] at h; cases h) (lb rfl) (lb rfl) (by rw [e0]; exact ⟨rfl, N0, rfl⟩) (fun fs hr => retI X0 hx hret (hb hby d16_23) hr)
abbrev R15_109 : Room := { frames := 1, cells := 0, slots := 0, locals := 15 }
def Q15_109 (Z : State) (G3 : Value) (h0 : Heap) (n0 : Nat) (v : Option Value) (h : Heap) (L : List Loc) : Prop := (v = none ∧ Fr n0 L ∧ h = h0)
theorem rm15_109 (l : Launch) (Z : State) (a0 : Array Value) (hw : HW Z a0) (G3 : Value) (h0 : Heap) (n0 : Nat) (OLD : Old Z n0 h0) (O4 : Sta Z Z.heap "jdk/internal/util/Preconditions" "SIOOBE_FORMATTER" "Ljava/util/function/BiFunction;" G3) (rG3 : G3.isRef = true) :
    own_CN l Z y11 jdk_42_method_158_code 3 none [] R15_109 #[(.int (0 : Int32)), (.int (2 : Int32)), (.int (4 : Int32))] h0 (Q15_109 Z G3 h0 n0) := by
  refine own_entryN (plainFor_of_name pn_1) fun p e s m below meth c s₁ hx hby hml hown hnm hret hlk hZ hh X0 e0 => ?_
  have N0 := Fr.nil n0
  rw [ef_15_109 m ]
  refine og s₁ (mkF m 3 #[vI (0 : Int32), vI (2 : Int32), vI (4 : Int32)] [(.int (4 : Int32)), (.int (2 : Int32)), (.int (0 : Int32))]) (fun _ k => XS.iloadN X0.here hx rfl (hb hby d15_0) rfl (XS.iloadN X0.here hx rfl (hb hby d15_1) rfl (XS.iloadN X0.here hx rfl (hb hby d15_2) rfl k))) ?_
  obtain ⟨T1, X1, e1, st1⟩ := getS2 X0 hx hZ hown (host := "") (Or.inl (own_w hw 76)) Via.refl e0 (O4.ext OLD.2) (g := (mkF m 3 #[vI (0 : Int32), vI (2 : Int32), vI (4 : Int32)] [(.int (4 : Int32)), (.int (2 : Int32)), (.int (0 : Int32))])) rfl (hb hby d15_3)
  refine og T1 (mkF m 6 #[vI (0 : Int32), vI (2 : Int32), vI (4 : Int32)] [G3, (.int (4 : Int32)), (.int (2 : Int32)), (.int (0 : Int32))]) st1 ?_
  obtain ⟨_, _, ⟨T2, L2, k2, n2⟩, -, X2, ⟨Lc2, hQ2, l2, y2, z2⟩, st2⟩ := Jvm.LawKit.callS X1 hx (y := y10) hown (mvT hZ (own_w hw 78)) (mvT hZ (own_w hw 79)) (mvT hZ (own_w hw 77)) (mvT hZ (own_w hw 80)) (by decide) (backOf (W := 0) (rm16_110 l Z a0 hw G3 h0 n0 OLD rG3) hZ (own_w hw 80) (own_w hw 77) (lb rfl) (lb rfl)) (g := (mkF m 6 #[vI (0 : Int32), vI (2 : Int32), vI (4 : Int32)] [G3, (.int (4 : Int32)), (.int (2 : Int32)), (.int (0 : Int32))])) rfl (by rw [hml]; rfl) (argsL := [(.int (0 : Int32)), (.int (2 : Int32)), (.int (4 : Int32)), G3]) (rest := []) (lenOf pd_9 rfl) rfl (lb rfl) (hb hby d15_6) (fun _ _ => ⟨rfl, e1, (lb rfl), (lb rfl)⟩)
  dsimp only [Pt.U, Pt.locs, Pt.cells, Pt.slots] at X2 l2 y2 z2 st2 hQ2
  subst l2 y2 z2
  obtain ⟨rfl, Nq2, eq2⟩ := hQ2
  have N2 := Fr.app N0 Nq2
  refine og T2 (mkF m 9 #[vI (0 : Int32), vI (2 : Int32), vI (4 : Int32)] [(.int (0 : Int32))]) st2 ?_
  refine og T2 (mkF m 10 #[vI (0 : Int32), vI (2 : Int32), vI (4 : Int32)] []) (fun _ k => XS.pop X2.here hx rfl (hb hby d15_9) rfl rfl k) ?_
  exact own_leaveN X2 hlk (v := none) (fun _ => rfl) (lb rfl) (lb rfl) (by rw [eq2]; exact ⟨rfl, N2, rfl⟩) (fun fs hr => X2.returnOut hx hret (hb hby d15_10) hr)
abbrev R13_114 : Room := { frames := 0, cells := 0, slots := 0, locals := 0 }
def Q13_114 (Z : State)  (h0 : Heap) (n0 : Nat) (v : Option Value) (h : Heap) (L : List Loc) : Prop := (v = some (.int (2 : Int32)) ∧ Fr n0 L ∧ h = h0)
theorem rm13_114 (l : Launch) (Z : State) (a0 : Array Value) (hw : HW Z a0)  (h0 : Heap) (n0 : Nat) (OLD : Old Z n0 h0) :
    own_CN l Z y6 jdk_29_method_69_code 2 (some .int) [] R13_114 #[(.int (4 : Int32)), (.int (2 : Int32))] h0 (Q13_114 Z  h0 n0) := by
  refine own_entryN (Jvm.Free.JP.mathPlain rfl (by decide +kernel)) fun p e s m below meth c s₁ hx hby hml hown hnm hret hlk hZ hh X0 e0 => ?_
  have N0 := Fr.nil n0
  rw [ef_13_114 m ]
  refine og s₁ (mkF m 10 #[vI (4 : Int32), vI (2 : Int32)] [(.int (2 : Int32))]) (fun _ k => XS.iloadN X0.here hx rfl (hb hby d13_0) rfl (XS.iloadN X0.here hx rfl (hb hby d13_1) rfl (XS.icmpYes X0.here hx rfl (pc0 := 2) (pc' := 9) rfl (hb hby d13_2) rfl (tlt (by decide : (2 : Int32) < (4 : Int32))).2.2.1 (by decide) (by decide) (XS.iloadN X0.here hx rfl (hb hby d13_9) rfl k)))) ?_
  exact own_leaveN X0 hlk (v := some (.int (2 : Int32))) (fun h => by rw [hret] at h; cases h) (lb rfl) (lb rfl) (by rw [e0]; exact ⟨rfl, N0, rfl⟩) (fun fs hr => retI X0 hx hret (hb hby d13_10) hr)
abbrev R22_113 : Room := { frames := 1, cells := 1, slots := 2, locals := 18 }
def Q22_113 (Z : State) (ra0 : Addr) (kc1 : ClassId) (ci2 : Int32) (ci3 : Int32) (ci4 : Int32) (ci5 : Int32) (h0 : Heap) (n0 : Nat) (v : Option Value) (h : Heap) (L : List Loc) : Prop := (∃ (b2 : Addr) (k2 : ClassId), v = some (.ref b2) ∧ Fr n0 L ∧ Keep h0 h [] ∧ h0.size ≤ b2 ∧ Arv Z h b2 k2 .byte (2 : Int32) [(.int (ci2.toInt8.toInt32)), (.int (ci3.toInt8.toInt32))] (.int (0 : Int32)))
theorem rm22_113 (l : Launch) (Z : State) (a0 : Array Value) (hw : HW Z a0) (ra0 : Addr) (kc1 : ClassId) (ci2 : Int32) (ci3 : Int32) (ci4 : Int32) (ci5 : Int32) (h0 : Heap) (n0 : Nat) (OLD : Old Z n0 h0) (hl_ci2 : ¬ ci2 < 0 ∧ ¬ (255 : Int32) < ci2) (hl_ci3 : ¬ ci3 < 0 ∧ ¬ (255 : Int32) < ci3) (hl_ci4 : ¬ ci4 < 0 ∧ ¬ (255 : Int32) < ci4) (hl_ci5 : ¬ ci5 < 0 ∧ ¬ (255 : Int32) < ci5) (V_ra0 : Arv Z h0 ra0 kc1 .byte (4 : Int32) [(.int (ci2.toInt8.toInt32)), (.int (ci3.toInt8.toInt32)), (.int (ci4.toInt8.toInt32)), (.int (ci5.toInt8.toInt32))] (.int (0 : Int32))) :
    own_CN l Z y17 jdk_65_method_133_code 5 (some (.array .byte)) [] R22_113 #[(.ref ra0), (.int (0 : Int32)), (.int (2 : Int32))] h0 (Q22_113 Z ra0 kc1 ci2 ci3 ci4 ci5 h0 n0) := by
  refine own_entryN (plainFor_of_name pn_5) fun p e s m below meth c s₁ hx hby hml hown hnm hret hlk hZ hh X0 e0 => ?_
  have N0 := Fr.nil n0
  rw [ef_22_113 m ra0]
  refine og s₁ (mkF m 2 #[vR ra0, vI (0 : Int32), vI (2 : Int32), vU, vU] [(.int (2 : Int32)), (.int (0 : Int32))]) (fun _ k => XS.iloadN X0.here hx rfl (hb hby d22_0) rfl (XS.iloadN X0.here hx rfl (hb hby d22_1) rfl k)) ?_
  obtain ⟨_, _, ⟨T1, L1, k1, n1⟩, -, X1, ⟨Lc1, hQ1, l1, y1, z1⟩, st1⟩ := Jvm.LawKit.callS X0 hx (y := y16) hown (mvT hZ (own_w hw 103)) (mvT hZ (own_w hw 104)) (mvT hZ (own_w hw 98)) (mvT hZ (own_w hw 105)) (by decide) (backOf (W := 0) (rm23_73 l Z a0 hw  h0 n0 OLD ) hZ (own_w hw 105) (own_w hw 98) (lb rfl) (lb rfl)) (g := (mkF m 2 #[vR ra0, vI (0 : Int32), vI (2 : Int32), vU, vU] [(.int (2 : Int32)), (.int (0 : Int32))])) rfl (by rw [hml]; rfl) (argsL := [(.int (0 : Int32)), (.int (2 : Int32))]) (rest := []) (lenOf pd_14 rfl) rfl (lb rfl) (hb hby d22_2) (fun _ _ => ⟨rfl, e0, (lb rfl), (lb rfl)⟩)
  dsimp only [Pt.U, Pt.locs, Pt.cells, Pt.slots] at X1 l1 y1 z1 st1 hQ1
  subst l1 y1 z1
  obtain ⟨rfl, Nq1, eq1⟩ := hQ1
  have N1 := Fr.app N0 Nq1
  refine og T1 (mkF m 5 #[vR ra0, vI (0 : Int32), vI (2 : Int32), vU, vU] []) st1 ?_
  refine og T1 (mkF m 10 #[vR ra0, vI (0 : Int32), vI (2 : Int32), vI (2 : Int32), vU] [(.int (2 : Int32))]) (fun _ k => XS.iloadN X1.here hx rfl (hb hby d22_5) rfl (XS.iloadN X1.here hx rfl (hb hby d22_6) rfl (XS.isub X1.here hx rfl (hb hby d22_7) rfl (XS.istoreN X1.here hx rfl (hb hby d22_8) rfl (l' := #[vR ra0, vI (0 : Int32), vI (2 : Int32), vI (2 : Int32), vU]) rfl (XS.iloadN X1.here hx rfl (hb hby d22_9) rfl k))))) ?_
  obtain ⟨T2, h2, k2, X2, e2, E2, A2, st2⟩ := newP X1 hx hZ (own_w hw 20) eq1 (g := (mkF m 10 #[vR ra0, vI (0 : Int32), vI (2 : Int32), vI (2 : Int32), vU] [(.int (2 : Int32))])) rfl (hb hby d22_10) rfl (by decide) (cap := 2) (by decide) (lb rfl) (lb rfl) (lb rfl)
  obtain ⟨b2, gb2⟩ : ∃ z, z = h0.size := ⟨_, rfl⟩
  rw [← gb2] at A2 st2
  have g3 : n0 ≤ b2 := Nat.le_trans (own_osz OLD) (Nat.le_of_eq gb2.symm)
  have z4 : h0.size ≤ b2 := Nat.le_trans (Nat.le_refl _) (Nat.le_of_eq gb2.symm)
  have V2 : Arv Z h2 b2 k2 .byte (2 : Int32) [(.int (0 : Int32)), (.int (0 : Int32))] (.int (0 : Int32)) := (Arv.new A2 (by decide)).pad (pad_rep [] (.int (0 : Int32)) 2)
  refine og T2 (mkF m 12 #[vR ra0, vI (0 : Int32), vI (2 : Int32), vI (2 : Int32), vU] [(.ref b2)]) st2 ?_
  refine og T2 (mkF m 20 #[vR ra0, vI (0 : Int32), vI (2 : Int32), vI (2 : Int32), vR b2] [(.ref ra0), (.int (0 : Int32)), (.ref b2), (.int (0 : Int32)), (.ref ra0)]) (fun _ k => XS.astore X2.here hx rfl (hb hby d22_12) rfl rfl (l' := #[vR ra0, vI (0 : Int32), vI (2 : Int32), vI (2 : Int32), vR b2]) rfl (XS.aloadN X2.here hx rfl (hb hby d22_14) rfl rfl (XS.iloadN X2.here hx rfl (hb hby d22_15) rfl (XS.aload X2.here hx rfl (hb hby d22_16) rfl rfl (XS.iconst X2.here hx rfl (hb hby d22_18) (XS.aloadN X2.here hx rfl (hb hby d22_19) rfl rfl k)))))) ?_
  have F5 := (V_ra0.ext E2)
  obtain ⟨cl6, Ar6, -, Sr6, Nr6, -, -⟩ := id F5
  refine og T2 (mkF m 21 #[vR ra0, vI (0 : Int32), vI (2 : Int32), vI (2 : Int32), vR b2] [(.int (4 : Int32)), (.int (0 : Int32)), (.ref b2), (.int (0 : Int32)), (.ref ra0)]) (fun t k => X2.arraylength hx (by rw [e2]; exact Ar6.1) (State.isArrayOf_alike hZ.alike Ar6.2.1) (g := (mkF m 20 #[vR ra0, vI (0 : Int32), vI (2 : Int32), vI (2 : Int32), vR b2] [(.ref ra0), (.int (0 : Int32)), (.ref b2), (.int (0 : Int32)), (.ref ra0)])) rfl rfl (hb hby d22_20) t (by rw [len_of Sr6 Nr6]; exact k)) ?_
  refine og T2 (mkF m 24 #[vR ra0, vI (0 : Int32), vI (2 : Int32), vI (2 : Int32), vR b2] [(.int (2 : Int32)), (.int (4 : Int32)), (.int (0 : Int32)), (.ref b2), (.int (0 : Int32)), (.ref ra0)]) (fun _ k => XS.iloadN X2.here hx rfl (hb hby d22_21) rfl (XS.isub X2.here hx rfl (hb hby d22_22) rfl (XS.iloadN X2.here hx rfl (hb hby d22_23) rfl k))) ?_
  have F7 := (OLD.ext E2)
  obtain ⟨_, _, ⟨T8, L8, k8, n8⟩, -, X8, ⟨Lc8, hQ8, l8, y8, z8⟩, st8⟩ := Jvm.LawKit.callS X2 hx (y := y6) hown (mvT hZ (own_w hw 106)) (mvT hZ (own_w hw 65)) (mvT hZ (own_w hw 66)) (mvT hZ (own_w hw 67)) (by decide) (backOf (W := 4) (rm13_114 l Z a0 hw  h2 n0 F7 ) hZ (own_w hw 67) (own_w hw 66) (lb rfl) (lb rfl)) (g := (mkF m 24 #[vR ra0, vI (0 : Int32), vI (2 : Int32), vI (2 : Int32), vR b2] [(.int (2 : Int32)), (.int (4 : Int32)), (.int (0 : Int32)), (.ref b2), (.int (0 : Int32)), (.ref ra0)])) rfl (by rw [hml]; rfl) (argsL := [(.int (4 : Int32)), (.int (2 : Int32))]) (rest := [(.int (0 : Int32)), (.ref b2), (.int (0 : Int32)), (.ref ra0)]) (lenOf pd_6 rfl) rfl (lb rfl) (hb hby d22_24) (fun _ _ => ⟨rfl, e2, (lb rfl), (lb rfl)⟩)
  dsimp only [Pt.U, Pt.locs, Pt.cells, Pt.slots] at X8 l8 y8 z8 st8 hQ8
  subst l8 y8 z8
  obtain ⟨rfl, Nq8, eq8⟩ := hQ8
  have N8 := Fr.app N1 Nq8
  refine og T8 (mkF m 27 #[vR ra0, vI (0 : Int32), vI (2 : Int32), vI (2 : Int32), vR b2] [(.int (2 : Int32)), (.int (0 : Int32)), (.ref b2), (.int (0 : Int32)), (.ref ra0)]) st8 ?_
  obtain ⟨T9, h9, L9, X9, e9, N9, K9, Vq9, st9⟩ := cpA X8 hx hZ hown (own_w hw 107) (own_w hw 110) (own_w hw 108) (own_w hw 109) eq8 F5 V2 (us := [(.int (ci2.toInt8.toInt32)), (.int (ci3.toInt8.toInt32))]) (Or.inl ⟨rfl, rfl⟩) (by decide) (by decide) (by decide) (by decide) (by decide) rfl (by decide) N8 g3 (g := (mkF m 27 #[vR ra0, vI (0 : Int32), vI (2 : Int32), vI (2 : Int32), vR b2] [(.int (2 : Int32)), (.int (0 : Int32)), (.ref b2), (.int (0 : Int32)), (.ref ra0)])) rfl (by rw [hml]; rfl) rfl (hb hby d22_27) (lb rfl) (W := 0) (lb rfl) (lb rfl)
  have V9 : Arv Z h9 b2 k2 .byte (2 : Int32) [(.int (ci2.toInt8.toInt32)), (.int (ci3.toInt8.toInt32))] (.int (0 : Int32)) := Vq9
  refine og T9 (mkF m 30 #[vR ra0, vI (0 : Int32), vI (2 : Int32), vI (2 : Int32), vR b2] []) st9 ?_
  refine og T9 (mkF m 32 #[vR ra0, vI (0 : Int32), vI (2 : Int32), vI (2 : Int32), vR b2] [(.ref b2)]) (fun _ k => XS.aload X9.here hx rfl (hb hby d22_30) rfl rfl k) ?_
  have KEEP := (((Keep.refl h0 []).ext E2).trans K9 (allS (Or.inr z4) all0))
  exact own_leaveN X9 hlk (v := some (.ref b2)) (fun h => by rw [hret] at h; cases h) (lb rfl) (lb rfl) (by rw [e9]; exact ⟨b2, k2, rfl, N9, KEEP, z4, V9⟩) (fun fs hr => retOut X9 hx (t := (.array .byte)) hret rfl (Or.inr (Or.inr (Or.inr (Or.inr ⟨rfl, rfl, rfl⟩)))) (hb hby d22_32) hr)
abbrev R21_112 : Room := { frames := 2, cells := 1, slots := 2, locals := 34 }
def Q21_112 (Z : State) (ra0 : Addr) (kc1 : ClassId) (ci2 : Int32) (ci3 : Int32) (ci4 : Int32) (ci5 : Int32) (h0 : Heap) (n0 : Nat) (v : Option Value) (h : Heap) (L : List Loc) : Prop := (∃ (o3 : Addr) (kc4 : ClassId), v = some (.ref o3) ∧ Fr n0 L ∧ Keep h0 h [] ∧ h0.size ≤ o3 ∧ Arv Z h o3 kc4 .byte (2 : Int32) [(.int (ci2.toInt8.toInt32)), (.int (ci3.toInt8.toInt32))] (.int (0 : Int32)))
theorem rm21_112 (l : Launch) (Z : State) (a0 : Array Value) (hw : HW Z a0) (ra0 : Addr) (kc1 : ClassId) (ci2 : Int32) (ci3 : Int32) (ci4 : Int32) (ci5 : Int32) (h0 : Heap) (n0 : Nat) (OLD : Old Z n0 h0) (hl_ci2 : ¬ ci2 < 0 ∧ ¬ (255 : Int32) < ci2) (hl_ci3 : ¬ ci3 < 0 ∧ ¬ (255 : Int32) < ci3) (hl_ci4 : ¬ ci4 < 0 ∧ ¬ (255 : Int32) < ci4) (hl_ci5 : ¬ ci5 < 0 ∧ ¬ (255 : Int32) < ci5) (V_ra0 : Arv Z h0 ra0 kc1 .byte (4 : Int32) [(.int (ci2.toInt8.toInt32)), (.int (ci3.toInt8.toInt32)), (.int (ci4.toInt8.toInt32)), (.int (ci5.toInt8.toInt32))] (.int (0 : Int32))) :
    own_CN l Z y18 jdk_65_method_132_code 3 (some (.array .byte)) [] R21_112 #[(.ref ra0), (.int (0 : Int32)), (.int (2 : Int32))] h0 (Q21_112 Z ra0 kc1 ci2 ci3 ci4 ci5 h0 n0) := by
  refine own_entryN (plainFor_of_name pn_5) fun p e s m below meth c s₁ hx hby hml hown hnm hret hlk hZ hh X0 e0 => ?_
  have N0 := Fr.nil n0
  rw [ef_21_112 m ra0]
  refine og s₁ (mkF m 6 #[vR ra0, vI (0 : Int32), vI (2 : Int32)] [(.ref ra0), (.int (2 : Int32))]) (fun _ k => XS.iloadN X0.here hx rfl (hb hby d21_0) rfl (XS.ifNo X0.here hx rfl (hb hby d21_1) rfl ((if0 _ _).trans (teq (by decide : (0 : Int32) = (0 : Int32))).2) (XS.iloadN X0.here hx rfl (hb hby d21_4) rfl (XS.aloadN X0.here hx rfl (hb hby d21_5) rfl rfl k)))) ?_
  obtain ⟨cl1, Ar1, -, Sr1, Nr1, -, -⟩ := id V_ra0
  refine og s₁ (mkF m 7 #[vR ra0, vI (0 : Int32), vI (2 : Int32)] [(.int (4 : Int32)), (.int (2 : Int32))]) (fun t k => X0.arraylength hx (by rw [e0]; exact Ar1.1) (State.isArrayOf_alike hZ.alike Ar1.2.1) (g := (mkF m 6 #[vR ra0, vI (0 : Int32), vI (2 : Int32)] [(.ref ra0), (.int (2 : Int32))])) rfl rfl (hb hby d21_6) t (by rw [len_of Sr1 Nr1]; exact k)) ?_
  refine og s₁ (mkF m 13 #[vR ra0, vI (0 : Int32), vI (2 : Int32)] [(.int (2 : Int32)), (.int (0 : Int32)), (.ref ra0)]) (fun _ k => XS.icmpNo X0.here hx rfl (hb hby d21_7) rfl (feq (by decide : ¬ ((2 : Int32) = (4 : Int32)))).1 (XS.aloadN X0.here hx rfl (hb hby d21_10) rfl rfl (XS.iloadN X0.here hx rfl (hb hby d21_11) rfl (XS.iloadN X0.here hx rfl (hb hby d21_12) rfl k)))) ?_
  obtain ⟨_, _, ⟨T2, L2, k2, n2⟩, -, X2, ⟨Lc2, hQ2, l2, y2, z2⟩, st2⟩ := Jvm.LawKit.callS X0 hx (y := y17) hown (mvT hZ (own_w hw 100)) (mvT hZ (own_w hw 101)) (mvT hZ (own_w hw 98)) (mvT hZ (own_w hw 102)) (by decide) (backOf (W := 0) (rm22_113 l Z a0 hw ra0 kc1 ci2 ci3 ci4 ci5 h0 n0 OLD hl_ci2 hl_ci3 hl_ci4 hl_ci5 V_ra0) hZ (own_w hw 102) (own_w hw 98) (lb rfl) (lb rfl)) (g := (mkF m 13 #[vR ra0, vI (0 : Int32), vI (2 : Int32)] [(.int (2 : Int32)), (.int (0 : Int32)), (.ref ra0)])) rfl (by rw [hml]; rfl) (argsL := [(.ref ra0), (.int (0 : Int32)), (.int (2 : Int32))]) (rest := []) (lenOf pd_15 rfl) rfl (lb rfl) (hb hby d21_13) (fun _ _ => ⟨rfl, e0, (lb rfl), (lb rfl)⟩)
  dsimp only [Pt.U, Pt.locs, Pt.cells, Pt.slots] at X2 l2 y2 z2 st2 hQ2
  subst l2 y2 z2
  obtain ⟨o3, kc4, rfl, Nq2, K2, f5, f6⟩ := hQ2
  have N2 := Fr.app N0 Nq2
  have g7 : n0 ≤ o3 := Nat.le_trans (own_osz OLD) f5
  have z8 : h0.size ≤ o3 := Nat.le_trans (Nat.le_refl _) f5
  refine og T2 (mkF m 16 #[vR ra0, vI (0 : Int32), vI (2 : Int32)] [(.ref o3)]) st2 ?_
  have KEEP := ((Keep.refl h0 []).trans K2 all0)
  exact own_leaveN X2 hlk (v := some (.ref o3)) (fun h => by rw [hret] at h; cases h) (lb rfl) (lb rfl) (by exact ⟨o3, kc4, rfl, N2, KEEP, z8, f6⟩) (fun fs hr => retOut X2 hx (t := (.array .byte)) hret rfl (Or.inr (Or.inr (Or.inr (Or.inr ⟨rfl, rfl, rfl⟩)))) (hb hby d21_16) hr)
abbrev R20_111 : Room := { frames := 3, cells := 2, slots := 6, locals := 50 }
def Q20_111 (Z : State) (ra0 : Addr) (kc1 : ClassId) (ci2 : Int32) (ci3 : Int32) (ci4 : Int32) (ci5 : Int32) (h0 : Heap) (n0 : Nat) (v : Option Value) (h : Heap) (L : List Loc) : Prop := (∃ (b1 : Addr) (o7 : Addr) (kc8 : ClassId), v = some (.ref b1) ∧ Fr n0 L ∧ Keep h0 h [] ∧ h0.size ≤ b1 ∧ h0.size ≤ o7 ∧ Exa Z h b1 "java/lang/String" ∧ Fld Z h b1 "java/lang/String" "coder" "B" (.int (0 : Int32)) ∧ Fld Z h b1 "java/lang/String" "value" "[B" (.ref o7) ∧ Arv Z h o7 kc8 .byte (2 : Int32) [(.int (ci2.toInt8.toInt32)), (.int (ci3.toInt8.toInt32))] (.int (0 : Int32)))
theorem rm20_111 (l : Launch) (Z : State) (a0 : Array Value) (hw : HW Z a0) (ra0 : Addr) (kc1 : ClassId) (ci2 : Int32) (ci3 : Int32) (ci4 : Int32) (ci5 : Int32) (h0 : Heap) (n0 : Nat) (OLD : Old Z n0 h0) (hl_ci2 : ¬ ci2 < 0 ∧ ¬ (255 : Int32) < ci2) (hl_ci3 : ¬ ci3 < 0 ∧ ¬ (255 : Int32) < ci3) (hl_ci4 : ¬ ci4 < 0 ∧ ¬ (255 : Int32) < ci4) (hl_ci5 : ¬ ci5 < 0 ∧ ¬ (255 : Int32) < ci5) (V_ra0 : Arv Z h0 ra0 kc1 .byte (4 : Int32) [(.int (ci2.toInt8.toInt32)), (.int (ci3.toInt8.toInt32)), (.int (ci4.toInt8.toInt32)), (.int (ci5.toInt8.toInt32))] (.int (0 : Int32))) :
    own_CN l Z y14 jdk_43_method_47_code 3 (some (.object "java/lang/String")) [] R20_111 #[(.ref ra0), (.int (0 : Int32)), (.int (2 : Int32))] h0 (Q20_111 Z ra0 kc1 ci2 ci3 ci4 ci5 h0 n0) := by
  refine own_entryN (plainFor_of_name pn_2) fun p e s m below meth c s₁ hx hby hml hown hnm hret hlk hZ hh X0 e0 => ?_
  have N0 := Fr.nil n0
  rw [ef_20_111 m ra0]
  refine og s₁ (mkF m 7 #[vR ra0, vI (0 : Int32), vI (2 : Int32)] []) (fun _ k => XS.iloadN X0.here hx rfl (hb hby d20_0) rfl (XS.ifYes X0.here hx rfl (pc0 := 1) (pc' := 7) rfl (hb hby d20_1) rfl ((if0 _ _).trans (feq (by decide : ¬ ((2 : Int32) = (0 : Int32)))).2) (by decide) (by decide) k)) ?_
  obtain ⟨T1, h1, X1, e1, E1, A1, D1, -, st1⟩ := newO X0 hx hZ hown (own_w hw 95) (own_w hw 7) (own_w hw 8) e0 (g := (mkF m 7 #[vR ra0, vI (0 : Int32), vI (2 : Int32)] [])) rfl (hb hby d20_7) (lb rfl) (lb rfl)
  obtain ⟨b1, gb1⟩ : ∃ z, z = h0.size := ⟨_, rfl⟩
  rw [← gb1] at A1 D1 st1
  have g2 : n0 ≤ b1 := Nat.le_trans (own_osz OLD) (Nat.le_of_eq gb1.symm)
  have z3 : h0.size ≤ b1 := Nat.le_trans (Nat.le_refl _) (Nat.le_of_eq gb1.symm)
  refine og T1 (mkF m 10 #[vR ra0, vI (0 : Int32), vI (2 : Int32)] [(.ref b1)]) st1 ?_
  refine og T1 (mkF m 16 #[vR ra0, vI (0 : Int32), vI (2 : Int32)] [(.int (2 : Int32)), (.int (0 : Int32)), (.ref ra0), (.ref b1), (.ref b1)]) (fun _ k => XS.dup X1.here hx rfl (hb hby d20_10) rfl rfl (XS.aloadN X1.here hx rfl (hb hby d20_11) rfl rfl (XS.iloadN X1.here hx rfl (hb hby d20_12) rfl (XS.iloadN X1.here hx rfl (hb hby d20_13) rfl (XS.iloadN X1.here hx rfl (hb hby d20_14) rfl (XS.iadd X1.here hx rfl (hb hby d20_15) rfl k)))))) ?_
  have F4 := (V_ra0.ext E1)
  have F5 := (OLD.ext E1)
  obtain ⟨_, _, ⟨T6, L6, k6, n6⟩, -, X6, ⟨Lc6, hQ6, l6, y6, z6⟩, st6⟩ := Jvm.LawKit.callS X1 hx (y := y18) hown (mvT hZ (own_w hw 96)) (mvT hZ (own_w hw 97)) (mvT hZ (own_w hw 98)) (mvT hZ (own_w hw 99)) (by decide) (backOf (W := 2) (rm21_112 l Z a0 hw ra0 kc1 ci2 ci3 ci4 ci5 h1 n0 F5 hl_ci2 hl_ci3 hl_ci4 hl_ci5 F4) hZ (own_w hw 99) (own_w hw 98) (lb rfl) (lb rfl)) (g := (mkF m 16 #[vR ra0, vI (0 : Int32), vI (2 : Int32)] [(.int (2 : Int32)), (.int (0 : Int32)), (.ref ra0), (.ref b1), (.ref b1)])) rfl (by rw [hml]; rfl) (argsL := [(.ref ra0), (.int (0 : Int32)), (.int (2 : Int32))]) (rest := [(.ref b1), (.ref b1)]) (lenOf pd_15 rfl) rfl (lb rfl) (hb hby d20_16) (fun _ _ => ⟨rfl, e1, (lb rfl), (lb rfl)⟩)
  dsimp only [Pt.U, Pt.locs, Pt.cells, Pt.slots] at X6 l6 y6 z6 st6 hQ6
  subst l6 y6 z6
  obtain ⟨o7, kc8, rfl, Nq6, K6, f9, f10⟩ := hQ6
  have N6 := Fr.app N0 Nq6
  have g11 : n0 ≤ o7 := Nat.le_trans (own_osz F5) f9
  have F13 := (Nat.le_trans (Nat.le_refl _) E1.1)
  have z12 : h0.size ≤ o7 := Nat.le_trans F13 f9
  refine og T6 (mkF m 19 #[vR ra0, vI (0 : Int32), vI (2 : Int32)] [(.ref o7), (.ref b1), (.ref b1)]) st6 ?_
  refine og T6 (mkF m 20 #[vR ra0, vI (0 : Int32), vI (2 : Int32)] [(.int (0 : Int32)), (.ref o7), (.ref b1), (.ref b1)]) (fun _ k => XS.iconst X6.here hx rfl (hb hby d20_19) k) ?_
  have F14 := (A1.keep K6)
  have F15 := ((D1 (Or.inr (own_w hw 22)) (ty := .byte) (by decide)).keep K6 nin0)
  have F16 := ((D1 (Or.inr (own_w hw 21)) (ty := (.array .byte)) (by decide)).keep K6 nin0)
  have F17 := (F5.keep K6 all0)
  obtain ⟨_, _, ⟨T18, L18, k18, n18⟩, -, X18, ⟨Lc18, hQ18, l18, y18, z18⟩, st18⟩ := X6.specialBack hx (y := y19) rfl hown (mvT hZ (own_w hw 111)) (mvT hZ (own_w hw 112)) (mvT hZ (own_w hw 113)) (by decide) (backOf (W := 1) (rm24_75 l Z a0 hw b1 o7 kc8 ci2 ci3 T6.heap n0 F17 F14 F15 F16 hl_ci2 hl_ci3 f10 g2) hZ (own_w hw 113) (own_w hw 8) (lb rfl) (lb rfl)) (g := (mkF m 20 #[vR ra0, vI (0 : Int32), vI (2 : Int32)] [(.int (0 : Int32)), (.ref o7), (.ref b1), (.ref b1)])) rfl (by rw [hml]; rfl) (Steps.refl _) (a := b1) (argsL := [(.ref o7), (.int (0 : Int32))]) (rest := [(.ref b1)]) (lenOf pd_16 rfl) rfl (lb rfl) (hb hby d20_20) (fun _ _ => ⟨rfl, rfl, (lb rfl), (lb rfl)⟩)
  dsimp only [Pt.U, Pt.locs, Pt.cells, Pt.slots] at X18 l18 y18 z18 st18 hQ18
  subst l18 y18 z18
  obtain ⟨rfl, Nq18, K18, f19, f20⟩ := hQ18
  have N18 := Fr.app N6 Nq18
  refine ot T18 (mkF m 23 #[vR ra0, vI (0 : Int32), vI (2 : Int32)] [(.ref b1)]) st18 ?_
  have F21 := (F14.keep K18)
  have F22 := (f10.keep K18 (ninS (Ne.symm (own_ne_lo A1.lt f9)) nin0))
  have KEEP := ((((Keep.refl h0 []).ext E1).trans K6 all0).trans K18 (allS (Or.inr z3) all0))
  exact own_leaveN X18 hlk (v := some (.ref b1)) (fun h => by rw [hret] at h; cases h) (lb rfl) (lb rfl) (by exact ⟨b1, o7, kc8, rfl, N18, KEEP, z3, z12, F21, f19, f20, F22⟩) (fun fs hr => retOut X18 hx (t := (.object "java/lang/String")) hret rfl (Or.inr (Or.inr (Or.inr (Or.inr ⟨rfl, rfl, rfl⟩)))) (hb hby d20_23) hr)
abbrev R14_108 : Room := { frames := 4, cells := 2, slots := 6, locals := 64 }
def Q14_108 (Z : State) (ra0 : Addr) (ra1 : Addr) (kc2 : ClassId) (ci3 : Int32) (ci4 : Int32) (ci5 : Int32) (ci6 : Int32) (G1 : Int32) (G3 : Value) (h0 : Heap) (n0 : Nat) (v : Option Value) (h : Heap) (L : List Loc) : Prop := (∃ (o7 : Addr) (o8 : Addr) (kc9 : ClassId), v = some (.ref o7) ∧ Fr n0 L ∧ Keep h0 h [] ∧ h0.size ≤ o7 ∧ h0.size ≤ o8 ∧ Exa Z h o7 "java/lang/String" ∧ Fld Z h o7 "java/lang/String" "coder" "B" (.int (0 : Int32)) ∧ Fld Z h o7 "java/lang/String" "value" "[B" (.ref o8) ∧ Arv Z h o8 kc9 .byte (2 : Int32) [(.int (ci3.toInt8.toInt32)), (.int (ci4.toInt8.toInt32))] (.int (0 : Int32)))
theorem rm14_108 (l : Launch) (Z : State) (a0 : Array Value) (hw : HW Z a0) (ra0 : Addr) (ra1 : Addr) (kc2 : ClassId) (ci3 : Int32) (ci4 : Int32) (ci5 : Int32) (ci6 : Int32) (G1 : Int32) (G3 : Value) (h0 : Heap) (n0 : Nat) (OLD : Old Z n0 h0) (E_ra0 : Exa Z h0 ra0 "java/lang/String") (F_coder_ra0 : Fld Z h0 ra0 "java/lang/String" "coder" "B" (.int (0 : Int32))) (F_value_ra0 : Fld Z h0 ra0 "java/lang/String" "value" "[B" (.ref ra1)) (hl_ci3 : ¬ ci3 < 0 ∧ ¬ (255 : Int32) < ci3) (hl_ci4 : ¬ ci4 < 0 ∧ ¬ (255 : Int32) < ci4) (hl_ci5 : ¬ ci5 < 0 ∧ ¬ (255 : Int32) < ci5) (hl_ci6 : ¬ ci6 < 0 ∧ ¬ (255 : Int32) < ci6) (V_ra1 : Arv Z h0 ra1 kc2 .byte (4 : Int32) [(.int (ci3.toInt8.toInt32)), (.int (ci4.toInt8.toInt32)), (.int (ci5.toInt8.toInt32)), (.int (ci6.toInt8.toInt32))] (.int (0 : Int32))) (O2 : Sta Z Z.heap "java/lang/String" "COMPACT_STRINGS" "Z" (.int G1)) (P5 : ¬ (G1 = (0 : Int32))) (O4 : Sta Z Z.heap "jdk/internal/util/Preconditions" "SIOOBE_FORMATTER" "Ljava/util/function/BiFunction;" G3) (rG3 : G3.isRef = true) :
    own_CN l Z y12 jdk_42_method_92_code 5 (some (.object "java/lang/String")) [] R14_108 #[(.ref ra0), (.int (0 : Int32)), (.int (2 : Int32))] h0 (Q14_108 Z ra0 ra1 kc2 ci3 ci4 ci5 ci6 G1 G3 h0 n0) := by
  refine own_entryN (plainFor_of_name pn_1) fun p e s m below meth c s₁ hx hby hml hown hnm hret hlk hZ hh X0 e0 => ?_
  have N0 := Fr.nil n0
  rw [ef_14_108 m ra0]
  refine og s₁ (mkF m 1 #[vR ra0, vI (0 : Int32), vI (2 : Int32), vU, vU] [(.ref ra0)]) (fun _ k => XS.aloadN X0.here hx rfl (hb hby d14_0) rfl rfl k) ?_
  have hp1 : ∀ c ∈ ([ci3, ci4, ci5, ci6] : List Int32), ¬ c < 0 ∧ ¬ (255 : Int32) < c := by
    intro c hc
    simp only [List.mem_cons, List.not_mem_nil, or_false] at hc
    rcases hc with rfl | rfl | rfl | rfl
    · exact hl_ci3
    · exact hl_ci4
    · exact hl_ci5
    · exact hl_ci6
  obtain ⟨cq2, kq2, q2a, q2b, q2c⟩ := isOf hZ e0 E_ra0
  obtain ⟨_, _, ⟨T2, L2, k2, n2⟩, -, X2, ⟨Lc2, hQ2, l2, y2, z2⟩, st2⟩ := X0.virtualBack hx (y := y3) (z := y3) hown (mvT hZ (own_w hw 36)) (mvT hZ (own_w hw 37)) (notFace_of_selects (args := #[]) (mvT hZ (own_w hw 39))) (mvT hZ (own_w hw 39)) (mvT hZ (own_w hw 38)) (by decide) (StrChars.Road.lenW (W := 0) hZ (own_hln hw) (kI := 4) (own_w hw 7) (cs := ([ci3, ci4, ci5, ci6] : List Int32)) E_ra0 F_value_ra0 F_coder_ra0 V_ra1 (StrChars.Road.codOf rfl (fun c hc => (hp1 c hc).2)) (own_up _ hp1) (O2.ext OLD.2) P5 (lb rfl) (lb rfl) (lb rfl)) q2a q2c (g := (mkF m 1 #[vR ra0, vI (0 : Int32), vI (2 : Int32), vU, vU] [(.ref ra0)])) rfl (by rw [hml]; rfl) (Steps.refl _) (argsL := []) (rest := []) (lenOf pd_3 rfl) rfl (lb rfl) (hb hby d14_1) (fun _ _ => ⟨rfl, e0, (lb rfl), (lb rfl)⟩)
  dsimp only [Pt.U, Pt.locs, Pt.cells, Pt.slots] at X2 l2 y2 z2 st2 hQ2
  subst l2 y2 z2
  obtain ⟨rfl, rfl, eq2⟩ := hQ2
  have N2 := Fr.app N0 (Fr.nil n0)
  refine ot T2 (mkF m 4 #[vR ra0, vI (0 : Int32), vI (2 : Int32), vU, vU] [(.int (4 : Int32))]) st2 ?_
  refine og T2 (mkF m 8 #[vR ra0, vI (0 : Int32), vI (2 : Int32), vI (4 : Int32), vU] [(.int (4 : Int32)), (.int (2 : Int32)), (.int (0 : Int32))]) (fun _ k => XS.istoreN X2.here hx rfl (hb hby d14_4) rfl (l' := #[vR ra0, vI (0 : Int32), vI (2 : Int32), vI (4 : Int32), vU]) rfl (XS.iloadN X2.here hx rfl (hb hby d14_5) rfl (XS.iloadN X2.here hx rfl (hb hby d14_6) rfl (XS.iloadN X2.here hx rfl (hb hby d14_7) rfl k)))) ?_
  obtain ⟨_, _, ⟨T3, L3, k3, n3⟩, -, X3, ⟨Lc3, hQ3, l3, y3, z3⟩, st3⟩ := Jvm.LawKit.callS X2 hx (y := y11) hown (mvT hZ (own_w hw 73)) (mvT hZ (own_w hw 74)) (mvT hZ (own_w hw 8)) (mvT hZ (own_w hw 75)) (by decide) (backOf (W := 0) (rm15_109 l Z a0 hw G3 h0 n0 OLD O4 rG3) hZ (own_w hw 75) (own_w hw 8) (lb rfl) (lb rfl)) (g := (mkF m 8 #[vR ra0, vI (0 : Int32), vI (2 : Int32), vI (4 : Int32), vU] [(.int (4 : Int32)), (.int (2 : Int32)), (.int (0 : Int32))])) rfl (by rw [hml]; rfl) (argsL := [(.int (0 : Int32)), (.int (2 : Int32)), (.int (4 : Int32))]) (rest := []) (lenOf pd_10 rfl) rfl (lb rfl) (hb hby d14_8) (fun _ _ => ⟨rfl, eq2, (lb rfl), (lb rfl)⟩)
  dsimp only [Pt.U, Pt.locs, Pt.cells, Pt.slots] at X3 l3 y3 z3 st3 hQ3
  subst l3 y3 z3
  obtain ⟨rfl, Nq3, eq3⟩ := hQ3
  have N3 := Fr.app N2 Nq3
  refine og T3 (mkF m 11 #[vR ra0, vI (0 : Int32), vI (2 : Int32), vI (4 : Int32), vU] []) st3 ?_
  refine og T3 (mkF m 28 #[vR ra0, vI (0 : Int32), vI (2 : Int32), vI (4 : Int32), vI (2 : Int32)] [(.ref ra0)]) (fun _ k => XS.iloadN X3.here hx rfl (hb hby d14_11) rfl (XS.ifNo X3.here hx rfl (hb hby d14_12) rfl ((if0 _ _).trans (teq (by decide : (0 : Int32) = (0 : Int32))).2) (XS.iloadN X3.here hx rfl (hb hby d14_15) rfl (XS.iloadN X3.here hx rfl (hb hby d14_16) rfl (XS.icmpYes X3.here hx rfl (pc0 := 17) (pc' := 22) rfl (hb hby d14_17) rfl (feq (by decide : ¬ ((2 : Int32) = (4 : Int32)))).2 (by decide) (by decide) (XS.iloadN X3.here hx rfl (hb hby d14_22) rfl (XS.iloadN X3.here hx rfl (hb hby d14_23) rfl (XS.isub X3.here hx rfl (hb hby d14_24) rfl (XS.istore X3.here hx rfl (hb hby d14_25) rfl (l' := #[vR ra0, vI (0 : Int32), vI (2 : Int32), vI (4 : Int32), vI (2 : Int32)]) rfl (XS.aloadN X3.here hx rfl (hb hby d14_27) rfl rfl k)))))))))) ?_
  obtain ⟨cq4, kq4, q4a, q4b, q4c⟩ := isOf hZ eq3 E_ra0
  obtain ⟨_, _, ⟨T4, L4, k4, n4⟩, -, X4, ⟨Lc4, hQ4, l4, y4, z4⟩, st4⟩ := X3.virtualBack hx (y := y4) (z := y4) hown (mvT hZ (own_w hw 52)) (mvT hZ (own_w hw 53)) (notFace_of_selects (args := #[]) (mvT hZ (own_w hw 55))) (mvT hZ (own_w hw 55)) (mvT hZ (own_w hw 54)) (by decide) (backOf (W := 0) (rm10_93 l Z a0 hw ra0 ra1 kc2 ci3 ci4 ci5 ci6 G1 h0 n0 OLD E_ra0 F_coder_ra0 F_value_ra0 hl_ci3 hl_ci4 hl_ci5 hl_ci6 V_ra1 O2 P5) hZ (own_w hw 56) (own_w hw 8) (lb rfl) (lb rfl)) q4a q4c (g := (mkF m 28 #[vR ra0, vI (0 : Int32), vI (2 : Int32), vI (4 : Int32), vI (2 : Int32)] [(.ref ra0)])) rfl (by rw [hml]; rfl) (Steps.refl _) (argsL := []) (rest := []) (lenOf pd_4 rfl) rfl (lb rfl) (hb hby d14_28) (fun _ _ => ⟨rfl, eq3, (lb rfl), (lb rfl)⟩)
  dsimp only [Pt.U, Pt.locs, Pt.cells, Pt.slots] at X4 l4 y4 z4 st4 hQ4
  subst l4 y4 z4
  obtain ⟨rfl, Nq4, eq4⟩ := hQ4
  have N4 := Fr.app N3 Nq4
  refine ot T4 (mkF m 31 #[vR ra0, vI (0 : Int32), vI (2 : Int32), vI (4 : Int32), vI (2 : Int32)] [(.int (1 : Int32))]) st4 ?_
  refine og T4 (mkF m 35 #[vR ra0, vI (0 : Int32), vI (2 : Int32), vI (4 : Int32), vI (2 : Int32)] [(.ref ra0)]) (fun _ k => XS.ifNo X4.here hx rfl (hb hby d14_31) rfl ((if0 _ _).trans (feq (by decide : ¬ ((1 : Int32) = (0 : Int32)))).1) (XS.aloadN X4.here hx rfl (hb hby d14_34) rfl rfl k)) ?_
  obtain ⟨T5, X5, e5, st5⟩ := getF X4 hx hZ hown (host := "") (Or.inl (own_w hw 25)) Via.refl eq4 F_value_ra0 (g := (mkF m 35 #[vR ra0, vI (0 : Int32), vI (2 : Int32), vI (4 : Int32), vI (2 : Int32)] [(.ref ra0)])) rfl rfl (hb hby d14_35)
  refine og T5 (mkF m 38 #[vR ra0, vI (0 : Int32), vI (2 : Int32), vI (4 : Int32), vI (2 : Int32)] [(.ref ra1)]) st5 ?_
  refine og T5 (mkF m 41 #[vR ra0, vI (0 : Int32), vI (2 : Int32), vI (4 : Int32), vI (2 : Int32)] [(.int (2 : Int32)), (.int (0 : Int32)), (.ref ra1)]) (fun _ k => XS.iloadN X5.here hx rfl (hb hby d14_38) rfl (XS.iload X5.here hx rfl (hb hby d14_39) rfl k)) ?_
  obtain ⟨_, _, ⟨T6, L6, k6, n6⟩, -, X6, ⟨Lc6, hQ6, l6, y6, z6⟩, st6⟩ := Jvm.LawKit.callS X5 hx (y := y14) hown (mvT hZ (own_w hw 92)) (mvT hZ (own_w hw 93)) (mvT hZ (own_w hw 59)) (mvT hZ (own_w hw 94)) (by decide) (backOf (W := 0) (rm20_111 l Z a0 hw ra1 kc2 ci3 ci4 ci5 ci6 h0 n0 OLD hl_ci3 hl_ci4 hl_ci5 hl_ci6 V_ra1) hZ (own_w hw 94) (own_w hw 59) (lb rfl) (lb rfl)) (g := (mkF m 41 #[vR ra0, vI (0 : Int32), vI (2 : Int32), vI (4 : Int32), vI (2 : Int32)] [(.int (2 : Int32)), (.int (0 : Int32)), (.ref ra1)])) rfl (by rw [hml]; rfl) (argsL := [(.ref ra1), (.int (0 : Int32)), (.int (2 : Int32))]) (rest := []) (lenOf pd_13 rfl) rfl (lb rfl) (hb hby d14_41) (fun _ _ => ⟨rfl, e5, (lb rfl), (lb rfl)⟩)
  dsimp only [Pt.U, Pt.locs, Pt.cells, Pt.slots] at X6 l6 y6 z6 st6 hQ6
  subst l6 y6 z6
  obtain ⟨o7, o8, kc9, rfl, Nq6, K6, f10, f11, f12, f13, f14, f15⟩ := hQ6
  have N6 := Fr.app N4 Nq6
  have g16 : n0 ≤ o7 := Nat.le_trans (own_osz OLD) f10
  have z17 : h0.size ≤ o7 := Nat.le_trans (Nat.le_refl _) f10
  have g18 : n0 ≤ o8 := Nat.le_trans (own_osz OLD) f11
  have z19 : h0.size ≤ o8 := Nat.le_trans (Nat.le_refl _) f11
  refine og T6 (mkF m 44 #[vR ra0, vI (0 : Int32), vI (2 : Int32), vI (4 : Int32), vI (2 : Int32)] [(.ref o7)]) st6 ?_
  refine og T6 (mkF m 57 #[vR ra0, vI (0 : Int32), vI (2 : Int32), vI (4 : Int32), vI (2 : Int32)] [(.ref o7)]) (fun _ k => XS.goto X6.here hx rfl (pc0 := 44) (pc' := 57) rfl (hb hby d14_44) (by decide) (by decide) k) ?_
  have KEEP := ((Keep.refl h0 []).trans K6 all0)
  exact own_leaveN X6 hlk (v := some (.ref o7)) (fun h => by rw [hret] at h; cases h) (lb rfl) (lb rfl) (by exact ⟨o7, o8, kc9, rfl, N6, KEEP, z17, z19, f12, f13, f14, f15⟩) (fun fs hr => retOut X6 hx (t := (.object "java/lang/String")) hret rfl (Or.inr (Or.inr (Or.inr (Or.inr ⟨rfl, rfl, rfl⟩)))) (hb hby d14_57) hr)
abbrev R16_117 : Room := { frames := 0, cells := 0, slots := 0, locals := 0 }
def Q16_117 (Z : State) (cv0 : Value) (h0 : Heap) (n0 : Nat) (v : Option Value) (h : Heap) (L : List Loc) : Prop := (v = some (.int (0 : Int32)) ∧ Fr n0 L ∧ h = h0)
theorem rm16_117 (l : Launch) (Z : State) (a0 : Array Value) (hw : HW Z a0) (cv0 : Value) (h0 : Heap) (n0 : Nat) (OLD : Old Z n0 h0) (rf_cv0 : cv0.isRef = true) :
    own_CN l Z y10 jdk_41_method_12_code 4 (some .int) [] R16_117 #[(.int (0 : Int32)), (.int (1 : Int32)), (.int (4 : Int32)), cv0] h0 (Q16_117 Z cv0 h0 n0) := by
  refine own_entryN (plainFor_of_name pn_3) fun p e s m below meth c s₁ hx hby hml hown hnm hret hlk hZ hh X0 e0 => ?_
  have N0 := Fr.nil n0
  rw [ef_16_117 m cv0 rf_cv0]
  refine og s₁ (mkF m 23 #[vI (0 : Int32), vI (1 : Int32), vI (4 : Int32), .val cv0] [(.int (0 : Int32))]) (fun _ k => XS.iloadN X0.here hx rfl (hb hby d16_0) rfl (XS.ifNo X0.here hx rfl (hb hby d16_1) rfl ((if0 _ _).trans (flt (by decide : ¬ ((0 : Int32) < (0 : Int32)))).1) (XS.iloadN X0.here hx rfl (hb hby d16_4) rfl (XS.iloadN X0.here hx rfl (hb hby d16_5) rfl (XS.icmpNo X0.here hx rfl (hb hby d16_6) rfl (flt (by decide : ¬ ((1 : Int32) < (0 : Int32)))).2.2.1 (XS.iloadN X0.here hx rfl (hb hby d16_9) rfl (XS.iloadN X0.here hx rfl (hb hby d16_10) rfl (XS.icmpYes X0.here hx rfl (pc0 := 11) (pc' := 22) rfl (hb hby d16_11) rfl (flt (by decide : ¬ ((4 : Int32) < (1 : Int32)))).2.2.2 (by decide) (by decide) (XS.iloadN X0.here hx rfl (hb hby d16_22) rfl k))))))))) ?_
  exact own_leaveN X0 hlk (v := some (.int (0 : Int32))) (fun h => by rw [hret] at h; cases h) (lb rfl) (lb rfl) (by rw [e0]; exact ⟨rfl, N0, rfl⟩) (fun fs hr => retI X0 hx hret (hb hby d16_23) hr)
abbrev R15_116 : Room := { frames := 1, cells := 0, slots := 0, locals := 15 }
def Q15_116 (Z : State) (G3 : Value) (h0 : Heap) (n0 : Nat) (v : Option Value) (h : Heap) (L : List Loc) : Prop := (v = none ∧ Fr n0 L ∧ h = h0)
theorem rm15_116 (l : Launch) (Z : State) (a0 : Array Value) (hw : HW Z a0) (G3 : Value) (h0 : Heap) (n0 : Nat) (OLD : Old Z n0 h0) (O4 : Sta Z Z.heap "jdk/internal/util/Preconditions" "SIOOBE_FORMATTER" "Ljava/util/function/BiFunction;" G3) (rG3 : G3.isRef = true) :
    own_CN l Z y11 jdk_42_method_158_code 3 none [] R15_116 #[(.int (0 : Int32)), (.int (1 : Int32)), (.int (4 : Int32))] h0 (Q15_116 Z G3 h0 n0) := by
  refine own_entryN (plainFor_of_name pn_1) fun p e s m below meth c s₁ hx hby hml hown hnm hret hlk hZ hh X0 e0 => ?_
  have N0 := Fr.nil n0
  rw [ef_15_116 m ]
  refine og s₁ (mkF m 3 #[vI (0 : Int32), vI (1 : Int32), vI (4 : Int32)] [(.int (4 : Int32)), (.int (1 : Int32)), (.int (0 : Int32))]) (fun _ k => XS.iloadN X0.here hx rfl (hb hby d15_0) rfl (XS.iloadN X0.here hx rfl (hb hby d15_1) rfl (XS.iloadN X0.here hx rfl (hb hby d15_2) rfl k))) ?_
  obtain ⟨T1, X1, e1, st1⟩ := getS2 X0 hx hZ hown (host := "") (Or.inl (own_w hw 76)) Via.refl e0 (O4.ext OLD.2) (g := (mkF m 3 #[vI (0 : Int32), vI (1 : Int32), vI (4 : Int32)] [(.int (4 : Int32)), (.int (1 : Int32)), (.int (0 : Int32))])) rfl (hb hby d15_3)
  refine og T1 (mkF m 6 #[vI (0 : Int32), vI (1 : Int32), vI (4 : Int32)] [G3, (.int (4 : Int32)), (.int (1 : Int32)), (.int (0 : Int32))]) st1 ?_
  obtain ⟨_, _, ⟨T2, L2, k2, n2⟩, -, X2, ⟨Lc2, hQ2, l2, y2, z2⟩, st2⟩ := Jvm.LawKit.callS X1 hx (y := y10) hown (mvT hZ (own_w hw 78)) (mvT hZ (own_w hw 79)) (mvT hZ (own_w hw 77)) (mvT hZ (own_w hw 80)) (by decide) (backOf (W := 0) (rm16_117 l Z a0 hw G3 h0 n0 OLD rG3) hZ (own_w hw 80) (own_w hw 77) (lb rfl) (lb rfl)) (g := (mkF m 6 #[vI (0 : Int32), vI (1 : Int32), vI (4 : Int32)] [G3, (.int (4 : Int32)), (.int (1 : Int32)), (.int (0 : Int32))])) rfl (by rw [hml]; rfl) (argsL := [(.int (0 : Int32)), (.int (1 : Int32)), (.int (4 : Int32)), G3]) (rest := []) (lenOf pd_9 rfl) rfl (lb rfl) (hb hby d15_6) (fun _ _ => ⟨rfl, e1, (lb rfl), (lb rfl)⟩)
  dsimp only [Pt.U, Pt.locs, Pt.cells, Pt.slots] at X2 l2 y2 z2 st2 hQ2
  subst l2 y2 z2
  obtain ⟨rfl, Nq2, eq2⟩ := hQ2
  have N2 := Fr.app N0 Nq2
  refine og T2 (mkF m 9 #[vI (0 : Int32), vI (1 : Int32), vI (4 : Int32)] [(.int (0 : Int32))]) st2 ?_
  refine og T2 (mkF m 10 #[vI (0 : Int32), vI (1 : Int32), vI (4 : Int32)] []) (fun _ k => XS.pop X2.here hx rfl (hb hby d15_9) rfl rfl k) ?_
  exact own_leaveN X2 hlk (v := none) (fun _ => rfl) (lb rfl) (lb rfl) (by rw [eq2]; exact ⟨rfl, N2, rfl⟩) (fun fs hr => X2.returnOut hx hret (hb hby d15_10) hr)
abbrev R13_121 : Room := { frames := 0, cells := 0, slots := 0, locals := 0 }
def Q13_121 (Z : State)  (h0 : Heap) (n0 : Nat) (v : Option Value) (h : Heap) (L : List Loc) : Prop := (v = some (.int (1 : Int32)) ∧ Fr n0 L ∧ h = h0)
theorem rm13_121 (l : Launch) (Z : State) (a0 : Array Value) (hw : HW Z a0)  (h0 : Heap) (n0 : Nat) (OLD : Old Z n0 h0) :
    own_CN l Z y6 jdk_29_method_69_code 2 (some .int) [] R13_121 #[(.int (4 : Int32)), (.int (1 : Int32))] h0 (Q13_121 Z  h0 n0) := by
  refine own_entryN (Jvm.Free.JP.mathPlain rfl (by decide +kernel)) fun p e s m below meth c s₁ hx hby hml hown hnm hret hlk hZ hh X0 e0 => ?_
  have N0 := Fr.nil n0
  rw [ef_13_121 m ]
  refine og s₁ (mkF m 10 #[vI (4 : Int32), vI (1 : Int32)] [(.int (1 : Int32))]) (fun _ k => XS.iloadN X0.here hx rfl (hb hby d13_0) rfl (XS.iloadN X0.here hx rfl (hb hby d13_1) rfl (XS.icmpYes X0.here hx rfl (pc0 := 2) (pc' := 9) rfl (hb hby d13_2) rfl (tlt (by decide : (1 : Int32) < (4 : Int32))).2.2.1 (by decide) (by decide) (XS.iloadN X0.here hx rfl (hb hby d13_9) rfl k)))) ?_
  exact own_leaveN X0 hlk (v := some (.int (1 : Int32))) (fun h => by rw [hret] at h; cases h) (lb rfl) (lb rfl) (by rw [e0]; exact ⟨rfl, N0, rfl⟩) (fun fs hr => retI X0 hx hret (hb hby d13_10) hr)
abbrev R22_120 : Room := { frames := 1, cells := 1, slots := 1, locals := 18 }
def Q22_120 (Z : State) (ra0 : Addr) (kc1 : ClassId) (ci2 : Int32) (ci3 : Int32) (ci4 : Int32) (ci5 : Int32) (h0 : Heap) (n0 : Nat) (v : Option Value) (h : Heap) (L : List Loc) : Prop := (∃ (b2 : Addr) (k2 : ClassId), v = some (.ref b2) ∧ Fr n0 L ∧ Keep h0 h [] ∧ h0.size ≤ b2 ∧ Arv Z h b2 k2 .byte (1 : Int32) [(.int (ci2.toInt8.toInt32))] (.int (0 : Int32)))
theorem rm22_120 (l : Launch) (Z : State) (a0 : Array Value) (hw : HW Z a0) (ra0 : Addr) (kc1 : ClassId) (ci2 : Int32) (ci3 : Int32) (ci4 : Int32) (ci5 : Int32) (h0 : Heap) (n0 : Nat) (OLD : Old Z n0 h0) (hl_ci2 : ¬ ci2 < 0 ∧ ¬ (255 : Int32) < ci2) (hl_ci3 : ¬ ci3 < 0 ∧ ¬ (255 : Int32) < ci3) (hl_ci4 : ¬ ci4 < 0 ∧ ¬ (255 : Int32) < ci4) (hl_ci5 : ¬ ci5 < 0 ∧ ¬ (255 : Int32) < ci5) (V_ra0 : Arv Z h0 ra0 kc1 .byte (4 : Int32) [(.int (ci2.toInt8.toInt32)), (.int (ci3.toInt8.toInt32)), (.int (ci4.toInt8.toInt32)), (.int (ci5.toInt8.toInt32))] (.int (0 : Int32))) :
    own_CN l Z y17 jdk_65_method_133_code 5 (some (.array .byte)) [] R22_120 #[(.ref ra0), (.int (0 : Int32)), (.int (1 : Int32))] h0 (Q22_120 Z ra0 kc1 ci2 ci3 ci4 ci5 h0 n0) := by
  refine own_entryN (plainFor_of_name pn_5) fun p e s m below meth c s₁ hx hby hml hown hnm hret hlk hZ hh X0 e0 => ?_
  have N0 := Fr.nil n0
  rw [ef_22_120 m ra0]
  refine og s₁ (mkF m 2 #[vR ra0, vI (0 : Int32), vI (1 : Int32), vU, vU] [(.int (1 : Int32)), (.int (0 : Int32))]) (fun _ k => XS.iloadN X0.here hx rfl (hb hby d22_0) rfl (XS.iloadN X0.here hx rfl (hb hby d22_1) rfl k)) ?_
  obtain ⟨_, _, ⟨T1, L1, k1, n1⟩, -, X1, ⟨Lc1, hQ1, l1, y1, z1⟩, st1⟩ := Jvm.LawKit.callS X0 hx (y := y16) hown (mvT hZ (own_w hw 103)) (mvT hZ (own_w hw 104)) (mvT hZ (own_w hw 98)) (mvT hZ (own_w hw 105)) (by decide) (backOf (W := 0) (rm23_48 l Z a0 hw  h0 n0 OLD ) hZ (own_w hw 105) (own_w hw 98) (lb rfl) (lb rfl)) (g := (mkF m 2 #[vR ra0, vI (0 : Int32), vI (1 : Int32), vU, vU] [(.int (1 : Int32)), (.int (0 : Int32))])) rfl (by rw [hml]; rfl) (argsL := [(.int (0 : Int32)), (.int (1 : Int32))]) (rest := []) (lenOf pd_14 rfl) rfl (lb rfl) (hb hby d22_2) (fun _ _ => ⟨rfl, e0, (lb rfl), (lb rfl)⟩)
  dsimp only [Pt.U, Pt.locs, Pt.cells, Pt.slots] at X1 l1 y1 z1 st1 hQ1
  subst l1 y1 z1
  obtain ⟨rfl, Nq1, eq1⟩ := hQ1
  have N1 := Fr.app N0 Nq1
  refine og T1 (mkF m 5 #[vR ra0, vI (0 : Int32), vI (1 : Int32), vU, vU] []) st1 ?_
  refine og T1 (mkF m 10 #[vR ra0, vI (0 : Int32), vI (1 : Int32), vI (1 : Int32), vU] [(.int (1 : Int32))]) (fun _ k => XS.iloadN X1.here hx rfl (hb hby d22_5) rfl (XS.iloadN X1.here hx rfl (hb hby d22_6) rfl (XS.isub X1.here hx rfl (hb hby d22_7) rfl (XS.istoreN X1.here hx rfl (hb hby d22_8) rfl (l' := #[vR ra0, vI (0 : Int32), vI (1 : Int32), vI (1 : Int32), vU]) rfl (XS.iloadN X1.here hx rfl (hb hby d22_9) rfl k))))) ?_
  obtain ⟨T2, h2, k2, X2, e2, E2, A2, st2⟩ := newP X1 hx hZ (own_w hw 20) eq1 (g := (mkF m 10 #[vR ra0, vI (0 : Int32), vI (1 : Int32), vI (1 : Int32), vU] [(.int (1 : Int32))])) rfl (hb hby d22_10) rfl (by decide) (cap := 1) (by decide) (lb rfl) (lb rfl) (lb rfl)
  obtain ⟨b2, gb2⟩ : ∃ z, z = h0.size := ⟨_, rfl⟩
  rw [← gb2] at A2 st2
  have g3 : n0 ≤ b2 := Nat.le_trans (own_osz OLD) (Nat.le_of_eq gb2.symm)
  have z4 : h0.size ≤ b2 := Nat.le_trans (Nat.le_refl _) (Nat.le_of_eq gb2.symm)
  have V2 : Arv Z h2 b2 k2 .byte (1 : Int32) [(.int (0 : Int32))] (.int (0 : Int32)) := (Arv.new A2 (by decide)).pad (pad_rep [] (.int (0 : Int32)) 1)
  refine og T2 (mkF m 12 #[vR ra0, vI (0 : Int32), vI (1 : Int32), vI (1 : Int32), vU] [(.ref b2)]) st2 ?_
  refine og T2 (mkF m 20 #[vR ra0, vI (0 : Int32), vI (1 : Int32), vI (1 : Int32), vR b2] [(.ref ra0), (.int (0 : Int32)), (.ref b2), (.int (0 : Int32)), (.ref ra0)]) (fun _ k => XS.astore X2.here hx rfl (hb hby d22_12) rfl rfl (l' := #[vR ra0, vI (0 : Int32), vI (1 : Int32), vI (1 : Int32), vR b2]) rfl (XS.aloadN X2.here hx rfl (hb hby d22_14) rfl rfl (XS.iloadN X2.here hx rfl (hb hby d22_15) rfl (XS.aload X2.here hx rfl (hb hby d22_16) rfl rfl (XS.iconst X2.here hx rfl (hb hby d22_18) (XS.aloadN X2.here hx rfl (hb hby d22_19) rfl rfl k)))))) ?_
  have F5 := (V_ra0.ext E2)
  obtain ⟨cl6, Ar6, -, Sr6, Nr6, -, -⟩ := id F5
  refine og T2 (mkF m 21 #[vR ra0, vI (0 : Int32), vI (1 : Int32), vI (1 : Int32), vR b2] [(.int (4 : Int32)), (.int (0 : Int32)), (.ref b2), (.int (0 : Int32)), (.ref ra0)]) (fun t k => X2.arraylength hx (by rw [e2]; exact Ar6.1) (State.isArrayOf_alike hZ.alike Ar6.2.1) (g := (mkF m 20 #[vR ra0, vI (0 : Int32), vI (1 : Int32), vI (1 : Int32), vR b2] [(.ref ra0), (.int (0 : Int32)), (.ref b2), (.int (0 : Int32)), (.ref ra0)])) rfl rfl (hb hby d22_20) t (by rw [len_of Sr6 Nr6]; exact k)) ?_
  refine og T2 (mkF m 24 #[vR ra0, vI (0 : Int32), vI (1 : Int32), vI (1 : Int32), vR b2] [(.int (1 : Int32)), (.int (4 : Int32)), (.int (0 : Int32)), (.ref b2), (.int (0 : Int32)), (.ref ra0)]) (fun _ k => XS.iloadN X2.here hx rfl (hb hby d22_21) rfl (XS.isub X2.here hx rfl (hb hby d22_22) rfl (XS.iloadN X2.here hx rfl (hb hby d22_23) rfl k))) ?_
  have F7 := (OLD.ext E2)
  obtain ⟨_, _, ⟨T8, L8, k8, n8⟩, -, X8, ⟨Lc8, hQ8, l8, y8, z8⟩, st8⟩ := Jvm.LawKit.callS X2 hx (y := y6) hown (mvT hZ (own_w hw 106)) (mvT hZ (own_w hw 65)) (mvT hZ (own_w hw 66)) (mvT hZ (own_w hw 67)) (by decide) (backOf (W := 4) (rm13_121 l Z a0 hw  h2 n0 F7 ) hZ (own_w hw 67) (own_w hw 66) (lb rfl) (lb rfl)) (g := (mkF m 24 #[vR ra0, vI (0 : Int32), vI (1 : Int32), vI (1 : Int32), vR b2] [(.int (1 : Int32)), (.int (4 : Int32)), (.int (0 : Int32)), (.ref b2), (.int (0 : Int32)), (.ref ra0)])) rfl (by rw [hml]; rfl) (argsL := [(.int (4 : Int32)), (.int (1 : Int32))]) (rest := [(.int (0 : Int32)), (.ref b2), (.int (0 : Int32)), (.ref ra0)]) (lenOf pd_6 rfl) rfl (lb rfl) (hb hby d22_24) (fun _ _ => ⟨rfl, e2, (lb rfl), (lb rfl)⟩)
  dsimp only [Pt.U, Pt.locs, Pt.cells, Pt.slots] at X8 l8 y8 z8 st8 hQ8
  subst l8 y8 z8
  obtain ⟨rfl, Nq8, eq8⟩ := hQ8
  have N8 := Fr.app N1 Nq8
  refine og T8 (mkF m 27 #[vR ra0, vI (0 : Int32), vI (1 : Int32), vI (1 : Int32), vR b2] [(.int (1 : Int32)), (.int (0 : Int32)), (.ref b2), (.int (0 : Int32)), (.ref ra0)]) st8 ?_
  obtain ⟨T9, h9, L9, X9, e9, N9, K9, Vq9, st9⟩ := cpA X8 hx hZ hown (own_w hw 107) (own_w hw 110) (own_w hw 108) (own_w hw 109) eq8 F5 V2 (us := [(.int (ci2.toInt8.toInt32))]) (Or.inl ⟨rfl, rfl⟩) (by decide) (by decide) (by decide) (by decide) (by decide) rfl (by decide) N8 g3 (g := (mkF m 27 #[vR ra0, vI (0 : Int32), vI (1 : Int32), vI (1 : Int32), vR b2] [(.int (1 : Int32)), (.int (0 : Int32)), (.ref b2), (.int (0 : Int32)), (.ref ra0)])) rfl (by rw [hml]; rfl) rfl (hb hby d22_27) (lb rfl) (W := 0) (lb rfl) (lb rfl)
  have V9 : Arv Z h9 b2 k2 .byte (1 : Int32) [(.int (ci2.toInt8.toInt32))] (.int (0 : Int32)) := Vq9
  refine og T9 (mkF m 30 #[vR ra0, vI (0 : Int32), vI (1 : Int32), vI (1 : Int32), vR b2] []) st9 ?_
  refine og T9 (mkF m 32 #[vR ra0, vI (0 : Int32), vI (1 : Int32), vI (1 : Int32), vR b2] [(.ref b2)]) (fun _ k => XS.aload X9.here hx rfl (hb hby d22_30) rfl rfl k) ?_
  have KEEP := (((Keep.refl h0 []).ext E2).trans K9 (allS (Or.inr z4) all0))
  exact own_leaveN X9 hlk (v := some (.ref b2)) (fun h => by rw [hret] at h; cases h) (lb rfl) (lb rfl) (by rw [e9]; exact ⟨b2, k2, rfl, N9, KEEP, z4, V9⟩) (fun fs hr => retOut X9 hx (t := (.array .byte)) hret rfl (Or.inr (Or.inr (Or.inr (Or.inr ⟨rfl, rfl, rfl⟩)))) (hb hby d22_32) hr)
abbrev R21_119 : Room := { frames := 2, cells := 1, slots := 1, locals := 34 }
def Q21_119 (Z : State) (ra0 : Addr) (kc1 : ClassId) (ci2 : Int32) (ci3 : Int32) (ci4 : Int32) (ci5 : Int32) (h0 : Heap) (n0 : Nat) (v : Option Value) (h : Heap) (L : List Loc) : Prop := (∃ (o3 : Addr) (kc4 : ClassId), v = some (.ref o3) ∧ Fr n0 L ∧ Keep h0 h [] ∧ h0.size ≤ o3 ∧ Arv Z h o3 kc4 .byte (1 : Int32) [(.int (ci2.toInt8.toInt32))] (.int (0 : Int32)))
theorem rm21_119 (l : Launch) (Z : State) (a0 : Array Value) (hw : HW Z a0) (ra0 : Addr) (kc1 : ClassId) (ci2 : Int32) (ci3 : Int32) (ci4 : Int32) (ci5 : Int32) (h0 : Heap) (n0 : Nat) (OLD : Old Z n0 h0) (hl_ci2 : ¬ ci2 < 0 ∧ ¬ (255 : Int32) < ci2) (hl_ci3 : ¬ ci3 < 0 ∧ ¬ (255 : Int32) < ci3) (hl_ci4 : ¬ ci4 < 0 ∧ ¬ (255 : Int32) < ci4) (hl_ci5 : ¬ ci5 < 0 ∧ ¬ (255 : Int32) < ci5) (V_ra0 : Arv Z h0 ra0 kc1 .byte (4 : Int32) [(.int (ci2.toInt8.toInt32)), (.int (ci3.toInt8.toInt32)), (.int (ci4.toInt8.toInt32)), (.int (ci5.toInt8.toInt32))] (.int (0 : Int32))) :
    own_CN l Z y18 jdk_65_method_132_code 3 (some (.array .byte)) [] R21_119 #[(.ref ra0), (.int (0 : Int32)), (.int (1 : Int32))] h0 (Q21_119 Z ra0 kc1 ci2 ci3 ci4 ci5 h0 n0) := by
  refine own_entryN (plainFor_of_name pn_5) fun p e s m below meth c s₁ hx hby hml hown hnm hret hlk hZ hh X0 e0 => ?_
  have N0 := Fr.nil n0
  rw [ef_21_119 m ra0]
  refine og s₁ (mkF m 6 #[vR ra0, vI (0 : Int32), vI (1 : Int32)] [(.ref ra0), (.int (1 : Int32))]) (fun _ k => XS.iloadN X0.here hx rfl (hb hby d21_0) rfl (XS.ifNo X0.here hx rfl (hb hby d21_1) rfl ((if0 _ _).trans (teq (by decide : (0 : Int32) = (0 : Int32))).2) (XS.iloadN X0.here hx rfl (hb hby d21_4) rfl (XS.aloadN X0.here hx rfl (hb hby d21_5) rfl rfl k)))) ?_
  obtain ⟨cl1, Ar1, -, Sr1, Nr1, -, -⟩ := id V_ra0
  refine og s₁ (mkF m 7 #[vR ra0, vI (0 : Int32), vI (1 : Int32)] [(.int (4 : Int32)), (.int (1 : Int32))]) (fun t k => X0.arraylength hx (by rw [e0]; exact Ar1.1) (State.isArrayOf_alike hZ.alike Ar1.2.1) (g := (mkF m 6 #[vR ra0, vI (0 : Int32), vI (1 : Int32)] [(.ref ra0), (.int (1 : Int32))])) rfl rfl (hb hby d21_6) t (by rw [len_of Sr1 Nr1]; exact k)) ?_
  refine og s₁ (mkF m 13 #[vR ra0, vI (0 : Int32), vI (1 : Int32)] [(.int (1 : Int32)), (.int (0 : Int32)), (.ref ra0)]) (fun _ k => XS.icmpNo X0.here hx rfl (hb hby d21_7) rfl (feq (by decide : ¬ ((1 : Int32) = (4 : Int32)))).1 (XS.aloadN X0.here hx rfl (hb hby d21_10) rfl rfl (XS.iloadN X0.here hx rfl (hb hby d21_11) rfl (XS.iloadN X0.here hx rfl (hb hby d21_12) rfl k)))) ?_
  obtain ⟨_, _, ⟨T2, L2, k2, n2⟩, -, X2, ⟨Lc2, hQ2, l2, y2, z2⟩, st2⟩ := Jvm.LawKit.callS X0 hx (y := y17) hown (mvT hZ (own_w hw 100)) (mvT hZ (own_w hw 101)) (mvT hZ (own_w hw 98)) (mvT hZ (own_w hw 102)) (by decide) (backOf (W := 0) (rm22_120 l Z a0 hw ra0 kc1 ci2 ci3 ci4 ci5 h0 n0 OLD hl_ci2 hl_ci3 hl_ci4 hl_ci5 V_ra0) hZ (own_w hw 102) (own_w hw 98) (lb rfl) (lb rfl)) (g := (mkF m 13 #[vR ra0, vI (0 : Int32), vI (1 : Int32)] [(.int (1 : Int32)), (.int (0 : Int32)), (.ref ra0)])) rfl (by rw [hml]; rfl) (argsL := [(.ref ra0), (.int (0 : Int32)), (.int (1 : Int32))]) (rest := []) (lenOf pd_15 rfl) rfl (lb rfl) (hb hby d21_13) (fun _ _ => ⟨rfl, e0, (lb rfl), (lb rfl)⟩)
  dsimp only [Pt.U, Pt.locs, Pt.cells, Pt.slots] at X2 l2 y2 z2 st2 hQ2
  subst l2 y2 z2
  obtain ⟨o3, kc4, rfl, Nq2, K2, f5, f6⟩ := hQ2
  have N2 := Fr.app N0 Nq2
  have g7 : n0 ≤ o3 := Nat.le_trans (own_osz OLD) f5
  have z8 : h0.size ≤ o3 := Nat.le_trans (Nat.le_refl _) f5
  refine og T2 (mkF m 16 #[vR ra0, vI (0 : Int32), vI (1 : Int32)] [(.ref o3)]) st2 ?_
  have KEEP := ((Keep.refl h0 []).trans K2 all0)
  exact own_leaveN X2 hlk (v := some (.ref o3)) (fun h => by rw [hret] at h; cases h) (lb rfl) (lb rfl) (by exact ⟨o3, kc4, rfl, N2, KEEP, z8, f6⟩) (fun fs hr => retOut X2 hx (t := (.array .byte)) hret rfl (Or.inr (Or.inr (Or.inr (Or.inr ⟨rfl, rfl, rfl⟩)))) (hb hby d21_16) hr)
abbrev R20_118 : Room := { frames := 3, cells := 2, slots := 5, locals := 50 }
def Q20_118 (Z : State) (ra0 : Addr) (kc1 : ClassId) (ci2 : Int32) (ci3 : Int32) (ci4 : Int32) (ci5 : Int32) (h0 : Heap) (n0 : Nat) (v : Option Value) (h : Heap) (L : List Loc) : Prop := (∃ (b1 : Addr) (o7 : Addr) (kc8 : ClassId), v = some (.ref b1) ∧ Fr n0 L ∧ Keep h0 h [] ∧ h0.size ≤ b1 ∧ h0.size ≤ o7 ∧ Exa Z h b1 "java/lang/String" ∧ Fld Z h b1 "java/lang/String" "coder" "B" (.int (0 : Int32)) ∧ Fld Z h b1 "java/lang/String" "value" "[B" (.ref o7) ∧ Arv Z h o7 kc8 .byte (1 : Int32) [(.int (ci2.toInt8.toInt32))] (.int (0 : Int32)))
theorem rm20_118 (l : Launch) (Z : State) (a0 : Array Value) (hw : HW Z a0) (ra0 : Addr) (kc1 : ClassId) (ci2 : Int32) (ci3 : Int32) (ci4 : Int32) (ci5 : Int32) (h0 : Heap) (n0 : Nat) (OLD : Old Z n0 h0) (hl_ci2 : ¬ ci2 < 0 ∧ ¬ (255 : Int32) < ci2) (hl_ci3 : ¬ ci3 < 0 ∧ ¬ (255 : Int32) < ci3) (hl_ci4 : ¬ ci4 < 0 ∧ ¬ (255 : Int32) < ci4) (hl_ci5 : ¬ ci5 < 0 ∧ ¬ (255 : Int32) < ci5) (V_ra0 : Arv Z h0 ra0 kc1 .byte (4 : Int32) [(.int (ci2.toInt8.toInt32)), (.int (ci3.toInt8.toInt32)), (.int (ci4.toInt8.toInt32)), (.int (ci5.toInt8.toInt32))] (.int (0 : Int32))) :
    own_CN l Z y14 jdk_43_method_47_code 3 (some (.object "java/lang/String")) [] R20_118 #[(.ref ra0), (.int (0 : Int32)), (.int (1 : Int32))] h0 (Q20_118 Z ra0 kc1 ci2 ci3 ci4 ci5 h0 n0) := by
  refine own_entryN (plainFor_of_name pn_2) fun p e s m below meth c s₁ hx hby hml hown hnm hret hlk hZ hh X0 e0 => ?_
  have N0 := Fr.nil n0
  rw [ef_20_118 m ra0]
  refine og s₁ (mkF m 7 #[vR ra0, vI (0 : Int32), vI (1 : Int32)] []) (fun _ k => XS.iloadN X0.here hx rfl (hb hby d20_0) rfl (XS.ifYes X0.here hx rfl (pc0 := 1) (pc' := 7) rfl (hb hby d20_1) rfl ((if0 _ _).trans (feq (by decide : ¬ ((1 : Int32) = (0 : Int32)))).2) (by decide) (by decide) k)) ?_
  obtain ⟨T1, h1, X1, e1, E1, A1, D1, -, st1⟩ := newO X0 hx hZ hown (own_w hw 95) (own_w hw 7) (own_w hw 8) e0 (g := (mkF m 7 #[vR ra0, vI (0 : Int32), vI (1 : Int32)] [])) rfl (hb hby d20_7) (lb rfl) (lb rfl)
  obtain ⟨b1, gb1⟩ : ∃ z, z = h0.size := ⟨_, rfl⟩
  rw [← gb1] at A1 D1 st1
  have g2 : n0 ≤ b1 := Nat.le_trans (own_osz OLD) (Nat.le_of_eq gb1.symm)
  have z3 : h0.size ≤ b1 := Nat.le_trans (Nat.le_refl _) (Nat.le_of_eq gb1.symm)
  refine og T1 (mkF m 10 #[vR ra0, vI (0 : Int32), vI (1 : Int32)] [(.ref b1)]) st1 ?_
  refine og T1 (mkF m 16 #[vR ra0, vI (0 : Int32), vI (1 : Int32)] [(.int (1 : Int32)), (.int (0 : Int32)), (.ref ra0), (.ref b1), (.ref b1)]) (fun _ k => XS.dup X1.here hx rfl (hb hby d20_10) rfl rfl (XS.aloadN X1.here hx rfl (hb hby d20_11) rfl rfl (XS.iloadN X1.here hx rfl (hb hby d20_12) rfl (XS.iloadN X1.here hx rfl (hb hby d20_13) rfl (XS.iloadN X1.here hx rfl (hb hby d20_14) rfl (XS.iadd X1.here hx rfl (hb hby d20_15) rfl k)))))) ?_
  have F4 := (V_ra0.ext E1)
  have F5 := (OLD.ext E1)
  obtain ⟨_, _, ⟨T6, L6, k6, n6⟩, -, X6, ⟨Lc6, hQ6, l6, y6, z6⟩, st6⟩ := Jvm.LawKit.callS X1 hx (y := y18) hown (mvT hZ (own_w hw 96)) (mvT hZ (own_w hw 97)) (mvT hZ (own_w hw 98)) (mvT hZ (own_w hw 99)) (by decide) (backOf (W := 2) (rm21_119 l Z a0 hw ra0 kc1 ci2 ci3 ci4 ci5 h1 n0 F5 hl_ci2 hl_ci3 hl_ci4 hl_ci5 F4) hZ (own_w hw 99) (own_w hw 98) (lb rfl) (lb rfl)) (g := (mkF m 16 #[vR ra0, vI (0 : Int32), vI (1 : Int32)] [(.int (1 : Int32)), (.int (0 : Int32)), (.ref ra0), (.ref b1), (.ref b1)])) rfl (by rw [hml]; rfl) (argsL := [(.ref ra0), (.int (0 : Int32)), (.int (1 : Int32))]) (rest := [(.ref b1), (.ref b1)]) (lenOf pd_15 rfl) rfl (lb rfl) (hb hby d20_16) (fun _ _ => ⟨rfl, e1, (lb rfl), (lb rfl)⟩)
  dsimp only [Pt.U, Pt.locs, Pt.cells, Pt.slots] at X6 l6 y6 z6 st6 hQ6
  subst l6 y6 z6
  obtain ⟨o7, kc8, rfl, Nq6, K6, f9, f10⟩ := hQ6
  have N6 := Fr.app N0 Nq6
  have g11 : n0 ≤ o7 := Nat.le_trans (own_osz F5) f9
  have F13 := (Nat.le_trans (Nat.le_refl _) E1.1)
  have z12 : h0.size ≤ o7 := Nat.le_trans F13 f9
  refine og T6 (mkF m 19 #[vR ra0, vI (0 : Int32), vI (1 : Int32)] [(.ref o7), (.ref b1), (.ref b1)]) st6 ?_
  refine og T6 (mkF m 20 #[vR ra0, vI (0 : Int32), vI (1 : Int32)] [(.int (0 : Int32)), (.ref o7), (.ref b1), (.ref b1)]) (fun _ k => XS.iconst X6.here hx rfl (hb hby d20_19) k) ?_
  have F14 := (A1.keep K6)
  have F15 := ((D1 (Or.inr (own_w hw 22)) (ty := .byte) (by decide)).keep K6 nin0)
  have F16 := ((D1 (Or.inr (own_w hw 21)) (ty := (.array .byte)) (by decide)).keep K6 nin0)
  have F17 := (F5.keep K6 all0)
  obtain ⟨_, _, ⟨T18, L18, k18, n18⟩, -, X18, ⟨Lc18, hQ18, l18, y18, z18⟩, st18⟩ := X6.specialBack hx (y := y19) rfl hown (mvT hZ (own_w hw 111)) (mvT hZ (own_w hw 112)) (mvT hZ (own_w hw 113)) (by decide) (backOf (W := 1) (rm24_50 l Z a0 hw b1 o7 kc8 ci2 T6.heap n0 F17 F14 F15 F16 hl_ci2 f10 g2) hZ (own_w hw 113) (own_w hw 8) (lb rfl) (lb rfl)) (g := (mkF m 20 #[vR ra0, vI (0 : Int32), vI (1 : Int32)] [(.int (0 : Int32)), (.ref o7), (.ref b1), (.ref b1)])) rfl (by rw [hml]; rfl) (Steps.refl _) (a := b1) (argsL := [(.ref o7), (.int (0 : Int32))]) (rest := [(.ref b1)]) (lenOf pd_16 rfl) rfl (lb rfl) (hb hby d20_20) (fun _ _ => ⟨rfl, rfl, (lb rfl), (lb rfl)⟩)
  dsimp only [Pt.U, Pt.locs, Pt.cells, Pt.slots] at X18 l18 y18 z18 st18 hQ18
  subst l18 y18 z18
  obtain ⟨rfl, Nq18, K18, f19, f20⟩ := hQ18
  have N18 := Fr.app N6 Nq18
  refine ot T18 (mkF m 23 #[vR ra0, vI (0 : Int32), vI (1 : Int32)] [(.ref b1)]) st18 ?_
  have F21 := (F14.keep K18)
  have F22 := (f10.keep K18 (ninS (Ne.symm (own_ne_lo A1.lt f9)) nin0))
  have KEEP := ((((Keep.refl h0 []).ext E1).trans K6 all0).trans K18 (allS (Or.inr z3) all0))
  exact own_leaveN X18 hlk (v := some (.ref b1)) (fun h => by rw [hret] at h; cases h) (lb rfl) (lb rfl) (by exact ⟨b1, o7, kc8, rfl, N18, KEEP, z3, z12, F21, f19, f20, F22⟩) (fun fs hr => retOut X18 hx (t := (.object "java/lang/String")) hret rfl (Or.inr (Or.inr (Or.inr (Or.inr ⟨rfl, rfl, rfl⟩)))) (hb hby d20_23) hr)
abbrev R14_115 : Room := { frames := 4, cells := 2, slots := 5, locals := 64 }
def Q14_115 (Z : State) (ra0 : Addr) (ra1 : Addr) (kc2 : ClassId) (ci3 : Int32) (ci4 : Int32) (ci5 : Int32) (ci6 : Int32) (G1 : Int32) (G3 : Value) (h0 : Heap) (n0 : Nat) (v : Option Value) (h : Heap) (L : List Loc) : Prop := (∃ (o7 : Addr) (o8 : Addr) (kc9 : ClassId), v = some (.ref o7) ∧ Fr n0 L ∧ Keep h0 h [] ∧ h0.size ≤ o7 ∧ h0.size ≤ o8 ∧ Exa Z h o7 "java/lang/String" ∧ Fld Z h o7 "java/lang/String" "coder" "B" (.int (0 : Int32)) ∧ Fld Z h o7 "java/lang/String" "value" "[B" (.ref o8) ∧ Arv Z h o8 kc9 .byte (1 : Int32) [(.int (ci3.toInt8.toInt32))] (.int (0 : Int32)))
theorem rm14_115 (l : Launch) (Z : State) (a0 : Array Value) (hw : HW Z a0) (ra0 : Addr) (ra1 : Addr) (kc2 : ClassId) (ci3 : Int32) (ci4 : Int32) (ci5 : Int32) (ci6 : Int32) (G1 : Int32) (G3 : Value) (h0 : Heap) (n0 : Nat) (OLD : Old Z n0 h0) (E_ra0 : Exa Z h0 ra0 "java/lang/String") (F_coder_ra0 : Fld Z h0 ra0 "java/lang/String" "coder" "B" (.int (0 : Int32))) (F_value_ra0 : Fld Z h0 ra0 "java/lang/String" "value" "[B" (.ref ra1)) (hl_ci3 : ¬ ci3 < 0 ∧ ¬ (255 : Int32) < ci3) (hl_ci4 : ¬ ci4 < 0 ∧ ¬ (255 : Int32) < ci4) (hl_ci5 : ¬ ci5 < 0 ∧ ¬ (255 : Int32) < ci5) (hl_ci6 : ¬ ci6 < 0 ∧ ¬ (255 : Int32) < ci6) (V_ra1 : Arv Z h0 ra1 kc2 .byte (4 : Int32) [(.int (ci3.toInt8.toInt32)), (.int (ci4.toInt8.toInt32)), (.int (ci5.toInt8.toInt32)), (.int (ci6.toInt8.toInt32))] (.int (0 : Int32))) (O2 : Sta Z Z.heap "java/lang/String" "COMPACT_STRINGS" "Z" (.int G1)) (P5 : ¬ (G1 = (0 : Int32))) (O4 : Sta Z Z.heap "jdk/internal/util/Preconditions" "SIOOBE_FORMATTER" "Ljava/util/function/BiFunction;" G3) (rG3 : G3.isRef = true) :
    own_CN l Z y12 jdk_42_method_92_code 5 (some (.object "java/lang/String")) [] R14_115 #[(.ref ra0), (.int (0 : Int32)), (.int (1 : Int32))] h0 (Q14_115 Z ra0 ra1 kc2 ci3 ci4 ci5 ci6 G1 G3 h0 n0) := by
  refine own_entryN (plainFor_of_name pn_1) fun p e s m below meth c s₁ hx hby hml hown hnm hret hlk hZ hh X0 e0 => ?_
  have N0 := Fr.nil n0
  rw [ef_14_115 m ra0]
  refine og s₁ (mkF m 1 #[vR ra0, vI (0 : Int32), vI (1 : Int32), vU, vU] [(.ref ra0)]) (fun _ k => XS.aloadN X0.here hx rfl (hb hby d14_0) rfl rfl k) ?_
  have hp1 : ∀ c ∈ ([ci3, ci4, ci5, ci6] : List Int32), ¬ c < 0 ∧ ¬ (255 : Int32) < c := by
    intro c hc
    simp only [List.mem_cons, List.not_mem_nil, or_false] at hc
    rcases hc with rfl | rfl | rfl | rfl
    · exact hl_ci3
    · exact hl_ci4
    · exact hl_ci5
    · exact hl_ci6
  obtain ⟨cq2, kq2, q2a, q2b, q2c⟩ := isOf hZ e0 E_ra0
  obtain ⟨_, _, ⟨T2, L2, k2, n2⟩, -, X2, ⟨Lc2, hQ2, l2, y2, z2⟩, st2⟩ := X0.virtualBack hx (y := y3) (z := y3) hown (mvT hZ (own_w hw 36)) (mvT hZ (own_w hw 37)) (notFace_of_selects (args := #[]) (mvT hZ (own_w hw 39))) (mvT hZ (own_w hw 39)) (mvT hZ (own_w hw 38)) (by decide) (StrChars.Road.lenW (W := 0) hZ (own_hln hw) (kI := 4) (own_w hw 7) (cs := ([ci3, ci4, ci5, ci6] : List Int32)) E_ra0 F_value_ra0 F_coder_ra0 V_ra1 (StrChars.Road.codOf rfl (fun c hc => (hp1 c hc).2)) (own_up _ hp1) (O2.ext OLD.2) P5 (lb rfl) (lb rfl) (lb rfl)) q2a q2c (g := (mkF m 1 #[vR ra0, vI (0 : Int32), vI (1 : Int32), vU, vU] [(.ref ra0)])) rfl (by rw [hml]; rfl) (Steps.refl _) (argsL := []) (rest := []) (lenOf pd_3 rfl) rfl (lb rfl) (hb hby d14_1) (fun _ _ => ⟨rfl, e0, (lb rfl), (lb rfl)⟩)
  dsimp only [Pt.U, Pt.locs, Pt.cells, Pt.slots] at X2 l2 y2 z2 st2 hQ2
  subst l2 y2 z2
  obtain ⟨rfl, rfl, eq2⟩ := hQ2
  have N2 := Fr.app N0 (Fr.nil n0)
  refine ot T2 (mkF m 4 #[vR ra0, vI (0 : Int32), vI (1 : Int32), vU, vU] [(.int (4 : Int32))]) st2 ?_
  refine og T2 (mkF m 8 #[vR ra0, vI (0 : Int32), vI (1 : Int32), vI (4 : Int32), vU] [(.int (4 : Int32)), (.int (1 : Int32)), (.int (0 : Int32))]) (fun _ k => XS.istoreN X2.here hx rfl (hb hby d14_4) rfl (l' := #[vR ra0, vI (0 : Int32), vI (1 : Int32), vI (4 : Int32), vU]) rfl (XS.iloadN X2.here hx rfl (hb hby d14_5) rfl (XS.iloadN X2.here hx rfl (hb hby d14_6) rfl (XS.iloadN X2.here hx rfl (hb hby d14_7) rfl k)))) ?_
  obtain ⟨_, _, ⟨T3, L3, k3, n3⟩, -, X3, ⟨Lc3, hQ3, l3, y3, z3⟩, st3⟩ := Jvm.LawKit.callS X2 hx (y := y11) hown (mvT hZ (own_w hw 73)) (mvT hZ (own_w hw 74)) (mvT hZ (own_w hw 8)) (mvT hZ (own_w hw 75)) (by decide) (backOf (W := 0) (rm15_116 l Z a0 hw G3 h0 n0 OLD O4 rG3) hZ (own_w hw 75) (own_w hw 8) (lb rfl) (lb rfl)) (g := (mkF m 8 #[vR ra0, vI (0 : Int32), vI (1 : Int32), vI (4 : Int32), vU] [(.int (4 : Int32)), (.int (1 : Int32)), (.int (0 : Int32))])) rfl (by rw [hml]; rfl) (argsL := [(.int (0 : Int32)), (.int (1 : Int32)), (.int (4 : Int32))]) (rest := []) (lenOf pd_10 rfl) rfl (lb rfl) (hb hby d14_8) (fun _ _ => ⟨rfl, eq2, (lb rfl), (lb rfl)⟩)
  dsimp only [Pt.U, Pt.locs, Pt.cells, Pt.slots] at X3 l3 y3 z3 st3 hQ3
  subst l3 y3 z3
  obtain ⟨rfl, Nq3, eq3⟩ := hQ3
  have N3 := Fr.app N2 Nq3
  refine og T3 (mkF m 11 #[vR ra0, vI (0 : Int32), vI (1 : Int32), vI (4 : Int32), vU] []) st3 ?_
  refine og T3 (mkF m 28 #[vR ra0, vI (0 : Int32), vI (1 : Int32), vI (4 : Int32), vI (1 : Int32)] [(.ref ra0)]) (fun _ k => XS.iloadN X3.here hx rfl (hb hby d14_11) rfl (XS.ifNo X3.here hx rfl (hb hby d14_12) rfl ((if0 _ _).trans (teq (by decide : (0 : Int32) = (0 : Int32))).2) (XS.iloadN X3.here hx rfl (hb hby d14_15) rfl (XS.iloadN X3.here hx rfl (hb hby d14_16) rfl (XS.icmpYes X3.here hx rfl (pc0 := 17) (pc' := 22) rfl (hb hby d14_17) rfl (feq (by decide : ¬ ((1 : Int32) = (4 : Int32)))).2 (by decide) (by decide) (XS.iloadN X3.here hx rfl (hb hby d14_22) rfl (XS.iloadN X3.here hx rfl (hb hby d14_23) rfl (XS.isub X3.here hx rfl (hb hby d14_24) rfl (XS.istore X3.here hx rfl (hb hby d14_25) rfl (l' := #[vR ra0, vI (0 : Int32), vI (1 : Int32), vI (4 : Int32), vI (1 : Int32)]) rfl (XS.aloadN X3.here hx rfl (hb hby d14_27) rfl rfl k)))))))))) ?_
  obtain ⟨cq4, kq4, q4a, q4b, q4c⟩ := isOf hZ eq3 E_ra0
  obtain ⟨_, _, ⟨T4, L4, k4, n4⟩, -, X4, ⟨Lc4, hQ4, l4, y4, z4⟩, st4⟩ := X3.virtualBack hx (y := y4) (z := y4) hown (mvT hZ (own_w hw 52)) (mvT hZ (own_w hw 53)) (notFace_of_selects (args := #[]) (mvT hZ (own_w hw 55))) (mvT hZ (own_w hw 55)) (mvT hZ (own_w hw 54)) (by decide) (backOf (W := 0) (rm10_93 l Z a0 hw ra0 ra1 kc2 ci3 ci4 ci5 ci6 G1 h0 n0 OLD E_ra0 F_coder_ra0 F_value_ra0 hl_ci3 hl_ci4 hl_ci5 hl_ci6 V_ra1 O2 P5) hZ (own_w hw 56) (own_w hw 8) (lb rfl) (lb rfl)) q4a q4c (g := (mkF m 28 #[vR ra0, vI (0 : Int32), vI (1 : Int32), vI (4 : Int32), vI (1 : Int32)] [(.ref ra0)])) rfl (by rw [hml]; rfl) (Steps.refl _) (argsL := []) (rest := []) (lenOf pd_4 rfl) rfl (lb rfl) (hb hby d14_28) (fun _ _ => ⟨rfl, eq3, (lb rfl), (lb rfl)⟩)
  dsimp only [Pt.U, Pt.locs, Pt.cells, Pt.slots] at X4 l4 y4 z4 st4 hQ4
  subst l4 y4 z4
  obtain ⟨rfl, Nq4, eq4⟩ := hQ4
  have N4 := Fr.app N3 Nq4
  refine ot T4 (mkF m 31 #[vR ra0, vI (0 : Int32), vI (1 : Int32), vI (4 : Int32), vI (1 : Int32)] [(.int (1 : Int32))]) st4 ?_
  refine og T4 (mkF m 35 #[vR ra0, vI (0 : Int32), vI (1 : Int32), vI (4 : Int32), vI (1 : Int32)] [(.ref ra0)]) (fun _ k => XS.ifNo X4.here hx rfl (hb hby d14_31) rfl ((if0 _ _).trans (feq (by decide : ¬ ((1 : Int32) = (0 : Int32)))).1) (XS.aloadN X4.here hx rfl (hb hby d14_34) rfl rfl k)) ?_
  obtain ⟨T5, X5, e5, st5⟩ := getF X4 hx hZ hown (host := "") (Or.inl (own_w hw 25)) Via.refl eq4 F_value_ra0 (g := (mkF m 35 #[vR ra0, vI (0 : Int32), vI (1 : Int32), vI (4 : Int32), vI (1 : Int32)] [(.ref ra0)])) rfl rfl (hb hby d14_35)
  refine og T5 (mkF m 38 #[vR ra0, vI (0 : Int32), vI (1 : Int32), vI (4 : Int32), vI (1 : Int32)] [(.ref ra1)]) st5 ?_
  refine og T5 (mkF m 41 #[vR ra0, vI (0 : Int32), vI (1 : Int32), vI (4 : Int32), vI (1 : Int32)] [(.int (1 : Int32)), (.int (0 : Int32)), (.ref ra1)]) (fun _ k => XS.iloadN X5.here hx rfl (hb hby d14_38) rfl (XS.iload X5.here hx rfl (hb hby d14_39) rfl k)) ?_
  obtain ⟨_, _, ⟨T6, L6, k6, n6⟩, -, X6, ⟨Lc6, hQ6, l6, y6, z6⟩, st6⟩ := Jvm.LawKit.callS X5 hx (y := y14) hown (mvT hZ (own_w hw 92)) (mvT hZ (own_w hw 93)) (mvT hZ (own_w hw 59)) (mvT hZ (own_w hw 94)) (by decide) (backOf (W := 0) (rm20_118 l Z a0 hw ra1 kc2 ci3 ci4 ci5 ci6 h0 n0 OLD hl_ci3 hl_ci4 hl_ci5 hl_ci6 V_ra1) hZ (own_w hw 94) (own_w hw 59) (lb rfl) (lb rfl)) (g := (mkF m 41 #[vR ra0, vI (0 : Int32), vI (1 : Int32), vI (4 : Int32), vI (1 : Int32)] [(.int (1 : Int32)), (.int (0 : Int32)), (.ref ra1)])) rfl (by rw [hml]; rfl) (argsL := [(.ref ra1), (.int (0 : Int32)), (.int (1 : Int32))]) (rest := []) (lenOf pd_13 rfl) rfl (lb rfl) (hb hby d14_41) (fun _ _ => ⟨rfl, e5, (lb rfl), (lb rfl)⟩)
  dsimp only [Pt.U, Pt.locs, Pt.cells, Pt.slots] at X6 l6 y6 z6 st6 hQ6
  subst l6 y6 z6
  obtain ⟨o7, o8, kc9, rfl, Nq6, K6, f10, f11, f12, f13, f14, f15⟩ := hQ6
  have N6 := Fr.app N4 Nq6
  have g16 : n0 ≤ o7 := Nat.le_trans (own_osz OLD) f10
  have z17 : h0.size ≤ o7 := Nat.le_trans (Nat.le_refl _) f10
  have g18 : n0 ≤ o8 := Nat.le_trans (own_osz OLD) f11
  have z19 : h0.size ≤ o8 := Nat.le_trans (Nat.le_refl _) f11
  refine og T6 (mkF m 44 #[vR ra0, vI (0 : Int32), vI (1 : Int32), vI (4 : Int32), vI (1 : Int32)] [(.ref o7)]) st6 ?_
  refine og T6 (mkF m 57 #[vR ra0, vI (0 : Int32), vI (1 : Int32), vI (4 : Int32), vI (1 : Int32)] [(.ref o7)]) (fun _ k => XS.goto X6.here hx rfl (pc0 := 44) (pc' := 57) rfl (hb hby d14_44) (by decide) (by decide) k) ?_
  have KEEP := ((Keep.refl h0 []).trans K6 all0)
  exact own_leaveN X6 hlk (v := some (.ref o7)) (fun h => by rw [hret] at h; cases h) (lb rfl) (lb rfl) (by exact ⟨o7, o8, kc9, rfl, N6, KEEP, z17, z19, f12, f13, f14, f15⟩) (fun fs hr => retOut X6 hx (t := (.object "java/lang/String")) hret rfl (Or.inr (Or.inr (Or.inr (Or.inr ⟨rfl, rfl, rfl⟩)))) (hb hby d14_57) hr)
abbrev R16_124 : Room := { frames := 0, cells := 0, slots := 0, locals := 0 }
def Q16_124 (Z : State) (cv0 : Value) (h0 : Heap) (n0 : Nat) (v : Option Value) (h : Heap) (L : List Loc) : Prop := (v = some (.int (0 : Int32)) ∧ Fr n0 L ∧ h = h0)
theorem rm16_124 (l : Launch) (Z : State) (a0 : Array Value) (hw : HW Z a0) (cv0 : Value) (h0 : Heap) (n0 : Nat) (OLD : Old Z n0 h0) (rf_cv0 : cv0.isRef = true) :
    own_CN l Z y10 jdk_41_method_12_code 4 (some .int) [] R16_124 #[(.int (0 : Int32)), (.int (0 : Int32)), (.int (4 : Int32)), cv0] h0 (Q16_124 Z cv0 h0 n0) := by
  refine own_entryN (plainFor_of_name pn_3) fun p e s m below meth c s₁ hx hby hml hown hnm hret hlk hZ hh X0 e0 => ?_
  have N0 := Fr.nil n0
  rw [ef_16_124 m cv0 rf_cv0]
  refine og s₁ (mkF m 23 #[vI (0 : Int32), vI (0 : Int32), vI (4 : Int32), .val cv0] [(.int (0 : Int32))]) (fun _ k => XS.iloadN X0.here hx rfl (hb hby d16_0) rfl (XS.ifNo X0.here hx rfl (hb hby d16_1) rfl ((if0 _ _).trans (flt (by decide : ¬ ((0 : Int32) < (0 : Int32)))).1) (XS.iloadN X0.here hx rfl (hb hby d16_4) rfl (XS.iloadN X0.here hx rfl (hb hby d16_5) rfl (XS.icmpNo X0.here hx rfl (hb hby d16_6) rfl (flt (by decide : ¬ ((0 : Int32) < (0 : Int32)))).2.2.1 (XS.iloadN X0.here hx rfl (hb hby d16_9) rfl (XS.iloadN X0.here hx rfl (hb hby d16_10) rfl (XS.icmpYes X0.here hx rfl (pc0 := 11) (pc' := 22) rfl (hb hby d16_11) rfl (flt (by decide : ¬ ((4 : Int32) < (0 : Int32)))).2.2.2 (by decide) (by decide) (XS.iloadN X0.here hx rfl (hb hby d16_22) rfl k))))))))) ?_
  exact own_leaveN X0 hlk (v := some (.int (0 : Int32))) (fun h => by rw [hret] at h; cases h) (lb rfl) (lb rfl) (by rw [e0]; exact ⟨rfl, N0, rfl⟩) (fun fs hr => retI X0 hx hret (hb hby d16_23) hr)
abbrev R15_123 : Room := { frames := 1, cells := 0, slots := 0, locals := 15 }
def Q15_123 (Z : State) (G3 : Value) (h0 : Heap) (n0 : Nat) (v : Option Value) (h : Heap) (L : List Loc) : Prop := (v = none ∧ Fr n0 L ∧ h = h0)
theorem rm15_123 (l : Launch) (Z : State) (a0 : Array Value) (hw : HW Z a0) (G3 : Value) (h0 : Heap) (n0 : Nat) (OLD : Old Z n0 h0) (O4 : Sta Z Z.heap "jdk/internal/util/Preconditions" "SIOOBE_FORMATTER" "Ljava/util/function/BiFunction;" G3) (rG3 : G3.isRef = true) :
    own_CN l Z y11 jdk_42_method_158_code 3 none [] R15_123 #[(.int (0 : Int32)), (.int (0 : Int32)), (.int (4 : Int32))] h0 (Q15_123 Z G3 h0 n0) := by
  refine own_entryN (plainFor_of_name pn_1) fun p e s m below meth c s₁ hx hby hml hown hnm hret hlk hZ hh X0 e0 => ?_
  have N0 := Fr.nil n0
  rw [ef_15_123 m ]
  refine og s₁ (mkF m 3 #[vI (0 : Int32), vI (0 : Int32), vI (4 : Int32)] [(.int (4 : Int32)), (.int (0 : Int32)), (.int (0 : Int32))]) (fun _ k => XS.iloadN X0.here hx rfl (hb hby d15_0) rfl (XS.iloadN X0.here hx rfl (hb hby d15_1) rfl (XS.iloadN X0.here hx rfl (hb hby d15_2) rfl k))) ?_
  obtain ⟨T1, X1, e1, st1⟩ := getS2 X0 hx hZ hown (host := "") (Or.inl (own_w hw 76)) Via.refl e0 (O4.ext OLD.2) (g := (mkF m 3 #[vI (0 : Int32), vI (0 : Int32), vI (4 : Int32)] [(.int (4 : Int32)), (.int (0 : Int32)), (.int (0 : Int32))])) rfl (hb hby d15_3)
  refine og T1 (mkF m 6 #[vI (0 : Int32), vI (0 : Int32), vI (4 : Int32)] [G3, (.int (4 : Int32)), (.int (0 : Int32)), (.int (0 : Int32))]) st1 ?_
  obtain ⟨_, _, ⟨T2, L2, k2, n2⟩, -, X2, ⟨Lc2, hQ2, l2, y2, z2⟩, st2⟩ := Jvm.LawKit.callS X1 hx (y := y10) hown (mvT hZ (own_w hw 78)) (mvT hZ (own_w hw 79)) (mvT hZ (own_w hw 77)) (mvT hZ (own_w hw 80)) (by decide) (backOf (W := 0) (rm16_124 l Z a0 hw G3 h0 n0 OLD rG3) hZ (own_w hw 80) (own_w hw 77) (lb rfl) (lb rfl)) (g := (mkF m 6 #[vI (0 : Int32), vI (0 : Int32), vI (4 : Int32)] [G3, (.int (4 : Int32)), (.int (0 : Int32)), (.int (0 : Int32))])) rfl (by rw [hml]; rfl) (argsL := [(.int (0 : Int32)), (.int (0 : Int32)), (.int (4 : Int32)), G3]) (rest := []) (lenOf pd_9 rfl) rfl (lb rfl) (hb hby d15_6) (fun _ _ => ⟨rfl, e1, (lb rfl), (lb rfl)⟩)
  dsimp only [Pt.U, Pt.locs, Pt.cells, Pt.slots] at X2 l2 y2 z2 st2 hQ2
  subst l2 y2 z2
  obtain ⟨rfl, Nq2, eq2⟩ := hQ2
  have N2 := Fr.app N0 Nq2
  refine og T2 (mkF m 9 #[vI (0 : Int32), vI (0 : Int32), vI (4 : Int32)] [(.int (0 : Int32))]) st2 ?_
  refine og T2 (mkF m 10 #[vI (0 : Int32), vI (0 : Int32), vI (4 : Int32)] []) (fun _ k => XS.pop X2.here hx rfl (hb hby d15_9) rfl rfl k) ?_
  exact own_leaveN X2 hlk (v := none) (fun _ => rfl) (lb rfl) (lb rfl) (by rw [eq2]; exact ⟨rfl, N2, rfl⟩) (fun fs hr => X2.returnOut hx hret (hb hby d15_10) hr)
abbrev R20_126 : Room := { frames := 0, cells := 2, slots := 4, locals := 0 }
def Q20_126 (Z : State) (ra0 : Addr) (kc1 : ClassId) (ci2 : Int32) (ci3 : Int32) (ci4 : Int32) (ci5 : Int32) (h0 : Heap) (n0 : Nat) (v : Option Value) (h : Heap) (L : List Loc) : Prop := (∃ (l1 : Addr) (lb1 : Addr) (lk1 : ClassId), v = some (.ref l1) ∧ Fr n0 L ∧ Keep h0 h [] ∧ l1 < h.size ∧ lb1 < h.size ∧ Exa Z h l1 "java/lang/String" ∧ Fld Z h l1 "java/lang/String" "coder" "B" (.int (0 : Int32)) ∧ Fld Z h l1 "java/lang/String" "value" "[B" (.ref lb1) ∧ Arv Z h lb1 lk1 .byte (0 : Int32) [] (.int (0 : Int32)))
theorem rm20_126 (l : Launch) (Z : State) (a0 : Array Value) (hw : HW Z a0) (ra0 : Addr) (kc1 : ClassId) (ci2 : Int32) (ci3 : Int32) (ci4 : Int32) (ci5 : Int32) (h0 : Heap) (n0 : Nat) (OLD : Old Z n0 h0) (hl_ci2 : ¬ ci2 < 0 ∧ ¬ (255 : Int32) < ci2) (hl_ci3 : ¬ ci3 < 0 ∧ ¬ (255 : Int32) < ci3) (hl_ci4 : ¬ ci4 < 0 ∧ ¬ (255 : Int32) < ci4) (hl_ci5 : ¬ ci5 < 0 ∧ ¬ (255 : Int32) < ci5) (V_ra0 : Arv Z h0 ra0 kc1 .byte (4 : Int32) [(.int (ci2.toInt8.toInt32)), (.int (ci3.toInt8.toInt32)), (.int (ci4.toInt8.toInt32)), (.int (ci5.toInt8.toInt32))] (.int (0 : Int32))) :
    own_CW l Z y14 jdk_43_method_47_code 3 (some (.object "java/lang/String")) [] R20_126 #[(.ref ra0), (.int (0 : Int32)), (.int (0 : Int32))] h0 [] (Q20_126 Z ra0 kc1 ci2 ci3 ci4 ci5 h0 n0) := by
  refine own_entryW (plainFor_of_name pn_2) fun p e s m below meth c s₁ hx hby hml hown hnm hret hlk hZ hh hCH hSf X0 e0 => ?_
  have N0 := Fr.nil n0
  have hS0 : s.Since s.vm h0.size := own_since s _
  have hk0 : h0.size ≤ h0.size := Nat.le_refl _
  have CH0 : CHr Z own_EL s.vm h0 s.vm h0 := CHr.refl hCH
  rw [ef_20_126 m ra0]
  refine og s₁ (mkF m 4 #[vR ra0, vI (0 : Int32), vI (0 : Int32)] []) (fun _ k => XS.iloadN X0.here hx rfl (hb hby d20_0) rfl (XS.ifNo X0.here hx rfl (hb hby d20_1) rfl ((if0 _ _).trans (teq (by decide : (0 : Int32) = (0 : Int32))).2) k)) ?_
  obtain ⟨l1, T1, h1, k1, lb1, lk1, X1, e1, E1, hS1, hk1, hZ1, hown1, Ex1, Fc1, Fv1, Av1, la1, lz1, ch1, Lt1, sf1, st1⟩ := ldcCH X0 hx hZ hown (own_w hw 128) (own_wS hw) e0 hS0 hk0 (own_EW hw) (by decide) CH0.1 (vs := []) (z := (0 : Int32)) (by decide) (by decide) (by decide) (g := (mkF m 4 #[vR ra0, vI (0 : Int32), vI (0 : Int32)] [])) rfl (hb hby d20_4) (n := 0) (by decide) (by decide) (lb rfl) (lb rfl)
  have CH2 := CHr.trans CH0 ch1
  refine og T1 (mkF m 6 #[vR ra0, vI (0 : Int32), vI (0 : Int32)] [(.ref l1)]) st1 ?_
  have KEEP := ((Keep.refl h0 []).ext E1)
  exact own_leaveW (s := s) (vm0 := T1.vm) X1 hS1 hk1 hZ1 (own_EW hw) e1 CH2 hh hlk (v := some (.ref l1)) (fun h => by rw [hret] at h; cases h) (lb rfl) (lb rfl) (by rw [e1]; exact ⟨l1, lb1, lk1, rfl, N0, KEEP, la1, lz1, Ex1, Fc1, Fv1, Av1⟩) (fun fs hr => retOut X1 hx (t := (.object "java/lang/String")) hret rfl (Or.inr (Or.inr (Or.inr (Or.inr ⟨rfl, rfl, rfl⟩)))) (hb hby d20_6) hr)
abbrev R14_127 : Room := { frames := 2, cells := 2, slots := 4, locals := 29 }
def Q14_127 (Z : State) (ra0 : Addr) (ra1 : Addr) (kc2 : ClassId) (ci3 : Int32) (ci4 : Int32) (ci5 : Int32) (ci6 : Int32) (G1 : Int32) (G3 : Value) (h0 : Heap) (n0 : Nat) (v : Option Value) (h : Heap) (L : List Loc) : Prop := (∃ (o7 : Addr) (o8 : Addr) (kc9 : ClassId), v = some (.ref o7) ∧ Fr n0 L ∧ Keep h0 h [] ∧ o7 < h.size ∧ o8 < h.size ∧ Exa Z h o7 "java/lang/String" ∧ Fld Z h o7 "java/lang/String" "coder" "B" (.int (0 : Int32)) ∧ Fld Z h o7 "java/lang/String" "value" "[B" (.ref o8) ∧ Arv Z h o8 kc9 .byte (0 : Int32) [] (.int (0 : Int32)))
theorem rm14_127 (l : Launch) (Z : State) (a0 : Array Value) (hw : HW Z a0) (ra0 : Addr) (ra1 : Addr) (kc2 : ClassId) (ci3 : Int32) (ci4 : Int32) (ci5 : Int32) (ci6 : Int32) (G1 : Int32) (G3 : Value) (h0 : Heap) (n0 : Nat) (OLD : Old Z n0 h0) (E_ra0 : Exa Z h0 ra0 "java/lang/String") (F_coder_ra0 : Fld Z h0 ra0 "java/lang/String" "coder" "B" (.int (0 : Int32))) (F_value_ra0 : Fld Z h0 ra0 "java/lang/String" "value" "[B" (.ref ra1)) (hl_ci3 : ¬ ci3 < 0 ∧ ¬ (255 : Int32) < ci3) (hl_ci4 : ¬ ci4 < 0 ∧ ¬ (255 : Int32) < ci4) (hl_ci5 : ¬ ci5 < 0 ∧ ¬ (255 : Int32) < ci5) (hl_ci6 : ¬ ci6 < 0 ∧ ¬ (255 : Int32) < ci6) (V_ra1 : Arv Z h0 ra1 kc2 .byte (4 : Int32) [(.int (ci3.toInt8.toInt32)), (.int (ci4.toInt8.toInt32)), (.int (ci5.toInt8.toInt32)), (.int (ci6.toInt8.toInt32))] (.int (0 : Int32))) (O2 : Sta Z Z.heap "java/lang/String" "COMPACT_STRINGS" "Z" (.int G1)) (P5 : ¬ (G1 = (0 : Int32))) (O4 : Sta Z Z.heap "jdk/internal/util/Preconditions" "SIOOBE_FORMATTER" "Ljava/util/function/BiFunction;" G3) (rG3 : G3.isRef = true) :
    own_CW l Z y12 jdk_42_method_92_code 5 (some (.object "java/lang/String")) [] R14_127 #[(.ref ra0), (.int (0 : Int32)), (.int (0 : Int32))] h0 [] (Q14_127 Z ra0 ra1 kc2 ci3 ci4 ci5 ci6 G1 G3 h0 n0) := by
  refine own_entryW (plainFor_of_name pn_1) fun p e s m below meth c s₁ hx hby hml hown hnm hret hlk hZ hh hCH hSf X0 e0 => ?_
  have N0 := Fr.nil n0
  have hS0 : s.Since s.vm h0.size := own_since s _
  have hk0 : h0.size ≤ h0.size := Nat.le_refl _
  have CH0 : CHr Z own_EL s.vm h0 s.vm h0 := CHr.refl hCH
  rw [ef_14_127 m ra0]
  refine og s₁ (mkF m 1 #[vR ra0, vI (0 : Int32), vI (0 : Int32), vU, vU] [(.ref ra0)]) (fun _ k => XS.aloadN X0.here hx rfl (hb hby d14_0) rfl rfl k) ?_
  have hp1 : ∀ c ∈ ([ci3, ci4, ci5, ci6] : List Int32), ¬ c < 0 ∧ ¬ (255 : Int32) < c := by
    intro c hc
    simp only [List.mem_cons, List.not_mem_nil, or_false] at hc
    rcases hc with rfl | rfl | rfl | rfl
    · exact hl_ci3
    · exact hl_ci4
    · exact hl_ci5
    · exact hl_ci6
  obtain ⟨cq2, kq2, q2a, q2b, q2c⟩ := isOf hZ e0 E_ra0
  obtain ⟨_, _, ⟨T2, L2, k2, n2⟩, -, X2, ⟨Lc2, hQ2, l2, y2, z2⟩, st2⟩ := X0.virtualBack hx (y := y3) (z := y3) hown (mvT hZ (own_w hw 36)) (mvT hZ (own_w hw 37)) (notFace_of_selects (args := #[]) (mvT hZ (own_w hw 39))) (mvT hZ (own_w hw 39)) (mvT hZ (own_w hw 38)) (by decide) (StrChars.Road.lenW (W := 0) hZ (own_hln hw) (kI := 4) (own_w hw 7) (cs := ([ci3, ci4, ci5, ci6] : List Int32)) E_ra0 F_value_ra0 F_coder_ra0 V_ra1 (StrChars.Road.codOf rfl (fun c hc => (hp1 c hc).2)) (own_up _ hp1) (O2.ext OLD.2) P5 (lb rfl) (lb rfl) (lb rfl)) q2a q2c (g := (mkF m 1 #[vR ra0, vI (0 : Int32), vI (0 : Int32), vU, vU] [(.ref ra0)])) rfl (by rw [hml]; rfl) (Steps.refl _) (argsL := []) (rest := []) (lenOf pd_3 rfl) rfl (lb rfl) (hb hby d14_1) (fun _ _ => ⟨rfl, e0, (lb rfl), (lb rfl)⟩)
  dsimp only [Pt.U, Pt.locs, Pt.cells, Pt.slots] at X2 l2 y2 z2 st2 hQ2
  subst l2 y2 z2
  obtain ⟨rfl, rfl, eq2⟩ := hQ2
  have N2 := Fr.app N0 (Fr.nil n0)
  refine ot T2 (mkF m 4 #[vR ra0, vI (0 : Int32), vI (0 : Int32), vU, vU] [(.int (4 : Int32))]) st2 ?_
  refine og T2 (mkF m 8 #[vR ra0, vI (0 : Int32), vI (0 : Int32), vI (4 : Int32), vU] [(.int (4 : Int32)), (.int (0 : Int32)), (.int (0 : Int32))]) (fun _ k => XS.istoreN X2.here hx rfl (hb hby d14_4) rfl (l' := #[vR ra0, vI (0 : Int32), vI (0 : Int32), vI (4 : Int32), vU]) rfl (XS.iloadN X2.here hx rfl (hb hby d14_5) rfl (XS.iloadN X2.here hx rfl (hb hby d14_6) rfl (XS.iloadN X2.here hx rfl (hb hby d14_7) rfl k)))) ?_
  obtain ⟨_, _, ⟨T3, L3, k3, n3⟩, -, X3, ⟨Lc3, hQ3, l3, y3, z3⟩, st3⟩ := Jvm.LawKit.callS X2 hx (y := y11) hown (mvT hZ (own_w hw 73)) (mvT hZ (own_w hw 74)) (mvT hZ (own_w hw 8)) (mvT hZ (own_w hw 75)) (by decide) (backOf (W := 0) (rm15_123 l Z a0 hw G3 h0 n0 OLD O4 rG3) hZ (own_w hw 75) (own_w hw 8) (lb rfl) (lb rfl)) (g := (mkF m 8 #[vR ra0, vI (0 : Int32), vI (0 : Int32), vI (4 : Int32), vU] [(.int (4 : Int32)), (.int (0 : Int32)), (.int (0 : Int32))])) rfl (by rw [hml]; rfl) (argsL := [(.int (0 : Int32)), (.int (0 : Int32)), (.int (4 : Int32))]) (rest := []) (lenOf pd_10 rfl) rfl (lb rfl) (hb hby d14_8) (fun _ _ => ⟨rfl, eq2, (lb rfl), (lb rfl)⟩)
  dsimp only [Pt.U, Pt.locs, Pt.cells, Pt.slots] at X3 l3 y3 z3 st3 hQ3
  subst l3 y3 z3
  obtain ⟨rfl, Nq3, eq3⟩ := hQ3
  have N3 := Fr.app N2 Nq3
  refine og T3 (mkF m 11 #[vR ra0, vI (0 : Int32), vI (0 : Int32), vI (4 : Int32), vU] []) st3 ?_
  refine og T3 (mkF m 28 #[vR ra0, vI (0 : Int32), vI (0 : Int32), vI (4 : Int32), vI (0 : Int32)] [(.ref ra0)]) (fun _ k => XS.iloadN X3.here hx rfl (hb hby d14_11) rfl (XS.ifNo X3.here hx rfl (hb hby d14_12) rfl ((if0 _ _).trans (teq (by decide : (0 : Int32) = (0 : Int32))).2) (XS.iloadN X3.here hx rfl (hb hby d14_15) rfl (XS.iloadN X3.here hx rfl (hb hby d14_16) rfl (XS.icmpYes X3.here hx rfl (pc0 := 17) (pc' := 22) rfl (hb hby d14_17) rfl (feq (by decide : ¬ ((0 : Int32) = (4 : Int32)))).2 (by decide) (by decide) (XS.iloadN X3.here hx rfl (hb hby d14_22) rfl (XS.iloadN X3.here hx rfl (hb hby d14_23) rfl (XS.isub X3.here hx rfl (hb hby d14_24) rfl (XS.istore X3.here hx rfl (hb hby d14_25) rfl (l' := #[vR ra0, vI (0 : Int32), vI (0 : Int32), vI (4 : Int32), vI (0 : Int32)]) rfl (XS.aloadN X3.here hx rfl (hb hby d14_27) rfl rfl k)))))))))) ?_
  obtain ⟨cq4, kq4, q4a, q4b, q4c⟩ := isOf hZ eq3 E_ra0
  obtain ⟨_, _, ⟨T4, L4, k4, n4⟩, -, X4, ⟨Lc4, hQ4, l4, y4, z4⟩, st4⟩ := X3.virtualBack hx (y := y4) (z := y4) hown (mvT hZ (own_w hw 52)) (mvT hZ (own_w hw 53)) (notFace_of_selects (args := #[]) (mvT hZ (own_w hw 55))) (mvT hZ (own_w hw 55)) (mvT hZ (own_w hw 54)) (by decide) (backOf (W := 0) (rm10_93 l Z a0 hw ra0 ra1 kc2 ci3 ci4 ci5 ci6 G1 h0 n0 OLD E_ra0 F_coder_ra0 F_value_ra0 hl_ci3 hl_ci4 hl_ci5 hl_ci6 V_ra1 O2 P5) hZ (own_w hw 56) (own_w hw 8) (lb rfl) (lb rfl)) q4a q4c (g := (mkF m 28 #[vR ra0, vI (0 : Int32), vI (0 : Int32), vI (4 : Int32), vI (0 : Int32)] [(.ref ra0)])) rfl (by rw [hml]; rfl) (Steps.refl _) (argsL := []) (rest := []) (lenOf pd_4 rfl) rfl (lb rfl) (hb hby d14_28) (fun _ _ => ⟨rfl, eq3, (lb rfl), (lb rfl)⟩)
  dsimp only [Pt.U, Pt.locs, Pt.cells, Pt.slots] at X4 l4 y4 z4 st4 hQ4
  subst l4 y4 z4
  obtain ⟨rfl, Nq4, eq4⟩ := hQ4
  have N4 := Fr.app N3 Nq4
  refine ot T4 (mkF m 31 #[vR ra0, vI (0 : Int32), vI (0 : Int32), vI (4 : Int32), vI (0 : Int32)] [(.int (1 : Int32))]) st4 ?_
  refine og T4 (mkF m 35 #[vR ra0, vI (0 : Int32), vI (0 : Int32), vI (4 : Int32), vI (0 : Int32)] [(.ref ra0)]) (fun _ k => XS.ifNo X4.here hx rfl (hb hby d14_31) rfl ((if0 _ _).trans (feq (by decide : ¬ ((1 : Int32) = (0 : Int32)))).1) (XS.aloadN X4.here hx rfl (hb hby d14_34) rfl rfl k)) ?_
  obtain ⟨T5, X5, e5, st5⟩ := getF X4 hx hZ hown (host := "") (Or.inl (own_w hw 25)) Via.refl eq4 F_value_ra0 (g := (mkF m 35 #[vR ra0, vI (0 : Int32), vI (0 : Int32), vI (4 : Int32), vI (0 : Int32)] [(.ref ra0)])) rfl rfl (hb hby d14_35)
  refine og T5 (mkF m 38 #[vR ra0, vI (0 : Int32), vI (0 : Int32), vI (4 : Int32), vI (0 : Int32)] [(.ref ra1)]) st5 ?_
  refine og T5 (mkF m 41 #[vR ra0, vI (0 : Int32), vI (0 : Int32), vI (4 : Int32), vI (0 : Int32)] [(.int (0 : Int32)), (.int (0 : Int32)), (.ref ra1)]) (fun _ k => XS.iloadN X5.here hx rfl (hb hby d14_38) rfl (XS.iload X5.here hx rfl (hb hby d14_39) rfl k)) ?_
  obtain ⟨_, _, ⟨T6, L6, k6, n6⟩, -, X6, hs6, hg6, ⟨Lc6, hQ6, l6, y6, z6, ch6⟩, st6⟩ := callSS X5 hx (y := y14) hown (mvT hZ (own_w hw 92)) (mvT hZ (own_w hw 93)) (mvT hZ (own_w hw 59)) (mvT hZ (own_w hw 94)) (by decide) (own_backSH (W := 0) (rm20_126 l Z a0 hw ra1 kc2 ci3 ci4 ci5 ci6 h0 n0 OLD hl_ci3 hl_ci4 hl_ci5 hl_ci6 V_ra1) hZ (own_w hw 94) (own_w hw 59) (lb rfl) (lb rfl) (own_EW hw) CH0.1 all0) (g := (mkF m 41 #[vR ra0, vI (0 : Int32), vI (0 : Int32), vI (4 : Int32), vI (0 : Int32)] [(.int (0 : Int32)), (.int (0 : Int32)), (.ref ra1)])) rfl (by rw [hml]; rfl) (argsL := [(.ref ra1), (.int (0 : Int32)), (.int (0 : Int32))]) (rest := []) (lenOf pd_13 rfl) rfl (lb rfl) (hb hby d14_41) (fun _ _ => ⟨rfl, e5, (lb rfl), (lb rfl)⟩)
  dsimp only [Pt.U, Pt.locs, Pt.cells, Pt.slots] at X6 l6 y6 z6 st6 hQ6 hs6 hg6 ch6
  subst l6 y6 z6
  replace X6 := own_reb X6
  obtain ⟨hZ6, hS6, hown6⟩ := own_after hZ hS0 e5 hk0 hs6 hg6 hown
  obtain ⟨o7, o8, kc9, rfl, Nq6, K6, f10, f11, f12, f13, f14, f15⟩ := hQ6
  have N6 := Fr.app N4 Nq6
  have CH16 := CHr.trans CH0 ch6
  refine ot T6 (mkF m 44 #[vR ra0, vI (0 : Int32), vI (0 : Int32), vI (4 : Int32), vI (0 : Int32)] [(.ref o7)]) st6 ?_
  refine og T6 (mkF m 57 #[vR ra0, vI (0 : Int32), vI (0 : Int32), vI (4 : Int32), vI (0 : Int32)] [(.ref o7)]) (fun _ k => XS.goto X6.here hx rfl (pc0 := 44) (pc' := 57) rfl (hb hby d14_44) (by decide) (by decide) k) ?_
  have KEEP := ((Keep.refl h0 []).trans K6 all0)
  exact own_leaveW (s := s) (vm0 := T6.vm) X6 hS6 (Nat.le_refl _) hZ6 (own_EW hw) rfl CH16 hh hlk (v := some (.ref o7)) (fun h => by rw [hret] at h; cases h) (lb rfl) (lb rfl) (by exact ⟨o7, o8, kc9, rfl, N6, KEEP, f10, f11, f12, f13, f14, f15⟩) (fun fs hr => retOut X6 hx (t := (.object "java/lang/String")) hret rfl (Or.inr (Or.inr (Or.inr (Or.inr ⟨rfl, rfl, rfl⟩)))) (hb hby d14_57) hr)
abbrev R5_128 : Room := { frames := 5, cells := 2, slots := 7, locals := 80 }
def Q5_128 (Z : State) (ra0 : Addr) (ra1 : Addr) (kc2 : ClassId) (ci3 : Int32) (ci4 : Int32) (ci5 : Int32) (ci6 : Int32) (G1 : Int32) (G3 : Value) (h0 : Heap) (n0 : Nat) (v : Option Value) (h : Heap) (L : List Loc) : Prop := ((ci6.toInt8.toInt32) = (46 : Int32) ∧ v = some (.ref ra0) ∧ Fr n0 L ∧ h = h0) ∨ (∃ (o7 : Addr) (o8 : Addr) (kc9 : ClassId), (¬ ((ci6.toInt8.toInt32) = (46 : Int32))) ∧ (ci5.toInt8.toInt32) = (46 : Int32) ∧ v = some (.ref o7) ∧ Fr n0 L ∧ Keep h0 h [] ∧ h0.size ≤ o7 ∧ h0.size ≤ o8 ∧ Exa Z h o7 "java/lang/String" ∧ Fld Z h o7 "java/lang/String" "coder" "B" (.int (0 : Int32)) ∧ Fld Z h o7 "java/lang/String" "value" "[B" (.ref o8) ∧ Arv Z h o8 kc9 .byte (3 : Int32) [(.int (ci3.toInt8.toInt32)), (.int (ci4.toInt8.toInt32)), (.int (ci5.toInt8.toInt32))] (.int (0 : Int32))) ∨ (∃ (o27 : Addr) (o28 : Addr) (kc29 : ClassId), (¬ ((ci6.toInt8.toInt32) = (46 : Int32))) ∧ (¬ ((ci5.toInt8.toInt32) = (46 : Int32))) ∧ (ci4.toInt8.toInt32) = (46 : Int32) ∧ v = some (.ref o27) ∧ Fr n0 L ∧ Keep h0 h [] ∧ h0.size ≤ o27 ∧ h0.size ≤ o28 ∧ Exa Z h o27 "java/lang/String" ∧ Fld Z h o27 "java/lang/String" "coder" "B" (.int (0 : Int32)) ∧ Fld Z h o27 "java/lang/String" "value" "[B" (.ref o28) ∧ Arv Z h o28 kc29 .byte (2 : Int32) [(.int (ci3.toInt8.toInt32)), (.int (ci4.toInt8.toInt32))] (.int (0 : Int32))) ∨ (∃ (o48 : Addr) (o49 : Addr) (kc50 : ClassId), (¬ ((ci6.toInt8.toInt32) = (46 : Int32))) ∧ (¬ ((ci5.toInt8.toInt32) = (46 : Int32))) ∧ (¬ ((ci4.toInt8.toInt32) = (46 : Int32))) ∧ (ci3.toInt8.toInt32) = (46 : Int32) ∧ v = some (.ref o48) ∧ Fr n0 L ∧ Keep h0 h [] ∧ h0.size ≤ o48 ∧ h0.size ≤ o49 ∧ Exa Z h o48 "java/lang/String" ∧ Fld Z h o48 "java/lang/String" "coder" "B" (.int (0 : Int32)) ∧ Fld Z h o48 "java/lang/String" "value" "[B" (.ref o49) ∧ Arv Z h o49 kc50 .byte (1 : Int32) [(.int (ci3.toInt8.toInt32))] (.int (0 : Int32))) ∨ (∃ (o69 : Addr) (o70 : Addr) (kc71 : ClassId), (¬ ((ci6.toInt8.toInt32) = (46 : Int32))) ∧ (¬ ((ci5.toInt8.toInt32) = (46 : Int32))) ∧ (¬ ((ci4.toInt8.toInt32) = (46 : Int32))) ∧ (¬ ((ci3.toInt8.toInt32) = (46 : Int32))) ∧ v = some (.ref o69) ∧ Fr n0 L ∧ Keep h0 h [] ∧ o69 < h.size ∧ o70 < h.size ∧ Exa Z h o69 "java/lang/String" ∧ Fld Z h o69 "java/lang/String" "coder" "B" (.int (0 : Int32)) ∧ Fld Z h o69 "java/lang/String" "value" "[B" (.ref o70) ∧ Arv Z h o70 kc71 .byte (0 : Int32) [] (.int (0 : Int32)))
theorem rm5_128 (l : Launch) (Z : State) (a0 : Array Value) (hw : HW Z a0) (ra0 : Addr) (ra1 : Addr) (kc2 : ClassId) (ci3 : Int32) (ci4 : Int32) (ci5 : Int32) (ci6 : Int32) (G1 : Int32) (G3 : Value) (h0 : Heap) (n0 : Nat) (OLD : Old Z n0 h0) (E_ra0 : Exa Z h0 ra0 "java/lang/String") (F_coder_ra0 : Fld Z h0 ra0 "java/lang/String" "coder" "B" (.int (0 : Int32))) (F_value_ra0 : Fld Z h0 ra0 "java/lang/String" "value" "[B" (.ref ra1)) (hl_ci3 : ¬ ci3 < 0 ∧ ¬ (255 : Int32) < ci3) (hl_ci4 : ¬ ci4 < 0 ∧ ¬ (255 : Int32) < ci4) (hl_ci5 : ¬ ci5 < 0 ∧ ¬ (255 : Int32) < ci5) (hl_ci6 : ¬ ci6 < 0 ∧ ¬ (255 : Int32) < ci6) (V_ra1 : Arv Z h0 ra1 kc2 .byte (4 : Int32) [(.int (ci3.toInt8.toInt32)), (.int (ci4.toInt8.toInt32)), (.int (ci5.toInt8.toInt32)), (.int (ci6.toInt8.toInt32))] (.int (0 : Int32))) (O2 : Sta Z Z.heap "java/lang/String" "COMPACT_STRINGS" "Z" (.int G1)) (P5 : ¬ (G1 = (0 : Int32))) (O4 : Sta Z Z.heap "jdk/internal/util/Preconditions" "SIOOBE_FORMATTER" "Ljava/util/function/BiFunction;" G3) (rG3 : G3.isRef = true) :
    own_CW l Z y13 prog_41_method_5_code 1 (some (.object "java/lang/String")) [] R5_128 #[(.ref ra0)] h0 [] (Q5_128 Z ra0 ra1 kc2 ci3 ci4 ci5 ci6 G1 G3 h0 n0) := by
  refine own_entryW (plainFor_of_name pn_4) fun p e s m below meth c s₁ hx hby hml hown hnm hret hlk hZ hh hCH hSf X0 e0 => ?_
  have N0 := Fr.nil n0
  have hS0 : s.Since s.vm h0.size := own_since s _
  have hk0 : h0.size ≤ h0.size := Nat.le_refl _
  have CH0 : CHr Z own_EL s.vm h0 s.vm h0 := CHr.refl hCH
  rw [ef_5_128 m ra0]
  refine og s₁ (mkF m 5 #[vR ra0] [(.int (46 : Int32)), (.ref ra0), (.int (0 : Int32)), (.ref ra0)]) (fun _ k => XS.aloadN X0.here hx rfl (hb hby d5_0) rfl rfl (XS.iconst X0.here hx rfl (hb hby d5_1) (XS.aloadN X0.here hx rfl (hb hby d5_2) rfl rfl (XS.bipush X0.here hx rfl (hb hby d5_3) k)))) ?_
  obtain ⟨cq1, kq1, q1a, q1b, q1c⟩ := isOf hZ e0 E_ra0
  obtain ⟨_, _, ⟨T1, L1, k1, n1⟩, -, X1, ⟨Lc1, hQ1, l1, y1, z1⟩, st1⟩ := X0.virtualBack hx (y := y9) (z := y9) hown (mvT hZ (own_w hw 31)) (mvT hZ (own_w hw 32)) (notFace_of_selects (args := #[]) (mvT hZ (own_w hw 34))) (mvT hZ (own_w hw 34)) (mvT hZ (own_w hw 33)) (by decide) (backOf (W := 2) (rm6_91 l Z a0 hw ra0 ra1 kc2 ci3 ci4 ci5 ci6 G1 h0 n0 OLD E_ra0 F_coder_ra0 F_value_ra0 hl_ci3 hl_ci4 hl_ci5 hl_ci6 V_ra1 O2 P5) hZ (own_w hw 35) (own_w hw 8) (lb rfl) (lb rfl)) q1a q1c (g := (mkF m 5 #[vR ra0] [(.int (46 : Int32)), (.ref ra0), (.int (0 : Int32)), (.ref ra0)])) rfl (by rw [hml]; rfl) (Steps.refl _) (argsL := [(.int (46 : Int32))]) (rest := [(.int (0 : Int32)), (.ref ra0)]) (lenOf pd_8 rfl) rfl (lb rfl) (hb hby d5_5) (fun _ _ => ⟨rfl, e0, (lb rfl), (lb rfl)⟩)
  dsimp only [Pt.U, Pt.locs, Pt.cells, Pt.slots] at X1 l1 y1 z1 st1 hQ1
  subst l1 y1 z1
  rcases hQ1 with hQ1 | hQ1 | hQ1 | hQ1 | hQ1
  · obtain ⟨hc2, rfl, Nq1, eq1⟩ := hQ1
    have N1 := Fr.app N0 Nq1
    refine ot T1 (mkF m 8 #[vR ra0] [(.int (3 : Int32)), (.int (0 : Int32)), (.ref ra0)]) st1 ?_
    refine og T1 (mkF m 10 #[vR ra0] [(.int (4 : Int32)), (.int (0 : Int32)), (.ref ra0)]) (fun _ k => XS.iconst X1.here hx rfl (hb hby d5_8) (XS.iadd X1.here hx rfl (hb hby d5_9) rfl k)) ?_
    obtain ⟨cq3, kq3, q3a, q3b, q3c⟩ := isOf hZ eq1 E_ra0
    obtain ⟨_, _, ⟨T3, L3, k3, n3⟩, -, X3, ⟨Lc3, hQ3, l3, y3, z3⟩, st3⟩ := X1.virtualBack hx (y := y12) (z := y12) hown (mvT hZ (own_w hw 68)) (mvT hZ (own_w hw 69)) (notFace_of_selects (args := #[]) (mvT hZ (own_w hw 71))) (mvT hZ (own_w hw 71)) (mvT hZ (own_w hw 70)) (by decide) (backOf (W := 0) (rm14_96 l Z a0 hw ra0 ra1 kc2 ci3 ci4 ci5 ci6 G1 G3 h0 n0 OLD E_ra0 F_coder_ra0 F_value_ra0 hl_ci3 hl_ci4 hl_ci5 hl_ci6 V_ra1 O2 P5 O4 rG3) hZ (own_w hw 72) (own_w hw 8) (lb rfl) (lb rfl)) q3a q3c (g := (mkF m 10 #[vR ra0] [(.int (4 : Int32)), (.int (0 : Int32)), (.ref ra0)])) rfl (by rw [hml]; rfl) (Steps.refl _) (argsL := [(.int (0 : Int32)), (.int (4 : Int32))]) (rest := []) (lenOf pd_11 rfl) rfl (lb rfl) (hb hby d5_10) (fun _ _ => ⟨rfl, eq1, (lb rfl), (lb rfl)⟩)
    dsimp only [Pt.U, Pt.locs, Pt.cells, Pt.slots] at X3 l3 y3 z3 st3 hQ3
    subst l3 y3 z3
    obtain ⟨rfl, Nq3, eq3⟩ := hQ3
    have N3 := Fr.app N1 Nq3
    refine ot T3 (mkF m 13 #[vR ra0] [(.ref ra0)]) st3 ?_
    exact own_leaveW (s := s) (vm0 := s.vm) X3 hS0 hk0 hZ (own_EW hw) eq3 CH0 hh hlk (v := some (.ref ra0)) (fun h => by rw [hret] at h; cases h) (lb rfl) (lb rfl) (by rw [eq3]; exact (Or.inl ⟨hc2, rfl, N3, rfl⟩)) (fun fs hr => retOut X3 hx (t := (.object "java/lang/String")) hret rfl (Or.inr (Or.inr (Or.inr (Or.inr ⟨rfl, rfl, rfl⟩)))) (hb hby d5_13) hr)
  · obtain ⟨hc4, hc5, rfl, Nq1, eq1⟩ := hQ1
    have N1 := Fr.app N0 Nq1
    refine ot T1 (mkF m 8 #[vR ra0] [(.int (2 : Int32)), (.int (0 : Int32)), (.ref ra0)]) st1 ?_
    refine og T1 (mkF m 10 #[vR ra0] [(.int (3 : Int32)), (.int (0 : Int32)), (.ref ra0)]) (fun _ k => XS.iconst X1.here hx rfl (hb hby d5_8) (XS.iadd X1.here hx rfl (hb hby d5_9) rfl k)) ?_
    obtain ⟨cq6, kq6, q6a, q6b, q6c⟩ := isOf hZ eq1 E_ra0
    obtain ⟨_, _, ⟨T6, L6, k6, n6⟩, -, X6, ⟨Lc6, hQ6, l6, y6, z6⟩, st6⟩ := X1.virtualBack hx (y := y12) (z := y12) hown (mvT hZ (own_w hw 68)) (mvT hZ (own_w hw 69)) (notFace_of_selects (args := #[]) (mvT hZ (own_w hw 71))) (mvT hZ (own_w hw 71)) (mvT hZ (own_w hw 70)) (by decide) (backOf (W := 0) (rm14_99 l Z a0 hw ra0 ra1 kc2 ci3 ci4 ci5 ci6 G1 G3 h0 n0 OLD E_ra0 F_coder_ra0 F_value_ra0 hl_ci3 hl_ci4 hl_ci5 hl_ci6 V_ra1 O2 P5 O4 rG3) hZ (own_w hw 72) (own_w hw 8) (lb rfl) (lb rfl)) q6a q6c (g := (mkF m 10 #[vR ra0] [(.int (3 : Int32)), (.int (0 : Int32)), (.ref ra0)])) rfl (by rw [hml]; rfl) (Steps.refl _) (argsL := [(.int (0 : Int32)), (.int (3 : Int32))]) (rest := []) (lenOf pd_11 rfl) rfl (lb rfl) (hb hby d5_10) (fun _ _ => ⟨rfl, eq1, (lb rfl), (lb rfl)⟩)
    dsimp only [Pt.U, Pt.locs, Pt.cells, Pt.slots] at X6 l6 y6 z6 st6 hQ6
    subst l6 y6 z6
    obtain ⟨o7, o8, kc9, rfl, Nq6, K6, f10, f11, f12, f13, f14, f15⟩ := hQ6
    have N6 := Fr.app N1 Nq6
    have g16 : n0 ≤ o7 := Nat.le_trans (own_osz OLD) f10
    have z17 : h0.size ≤ o7 := Nat.le_trans (Nat.le_refl _) f10
    have g18 : n0 ≤ o8 := Nat.le_trans (own_osz OLD) f11
    have z19 : h0.size ≤ o8 := Nat.le_trans (Nat.le_refl _) f11
    have ch20 := CHr.keep K6 all0 CH0.1
    have CH21 := CHr.trans CH0 ch20
    refine ot T6 (mkF m 13 #[vR ra0] [(.ref o7)]) st6 ?_
    have KEEP := ((Keep.refl h0 []).trans K6 all0)
    have F22 := (Nat.le_trans hk0 K6.1)
    exact own_leaveW (s := s) (vm0 := s.vm) X6 hS0 F22 hZ (own_EW hw) rfl CH21 hh hlk (v := some (.ref o7)) (fun h => by rw [hret] at h; cases h) (lb rfl) (lb rfl) (by exact (Or.inr (Or.inl ⟨o7, o8, kc9, hc4, hc5, rfl, N6, KEEP, z17, z19, f12, f13, f14, f15⟩))) (fun fs hr => retOut X6 hx (t := (.object "java/lang/String")) hret rfl (Or.inr (Or.inr (Or.inr (Or.inr ⟨rfl, rfl, rfl⟩)))) (hb hby d5_13) hr)
  · obtain ⟨hc23, hc24, hc25, rfl, Nq1, eq1⟩ := hQ1
    have N1 := Fr.app N0 Nq1
    refine ot T1 (mkF m 8 #[vR ra0] [(.int (1 : Int32)), (.int (0 : Int32)), (.ref ra0)]) st1 ?_
    refine og T1 (mkF m 10 #[vR ra0] [(.int (2 : Int32)), (.int (0 : Int32)), (.ref ra0)]) (fun _ k => XS.iconst X1.here hx rfl (hb hby d5_8) (XS.iadd X1.here hx rfl (hb hby d5_9) rfl k)) ?_
    obtain ⟨cq26, kq26, q26a, q26b, q26c⟩ := isOf hZ eq1 E_ra0
    obtain ⟨_, _, ⟨T26, L26, k26, n26⟩, -, X26, ⟨Lc26, hQ26, l26, y26, z26⟩, st26⟩ := X1.virtualBack hx (y := y12) (z := y12) hown (mvT hZ (own_w hw 68)) (mvT hZ (own_w hw 69)) (notFace_of_selects (args := #[]) (mvT hZ (own_w hw 71))) (mvT hZ (own_w hw 71)) (mvT hZ (own_w hw 70)) (by decide) (backOf (W := 0) (rm14_108 l Z a0 hw ra0 ra1 kc2 ci3 ci4 ci5 ci6 G1 G3 h0 n0 OLD E_ra0 F_coder_ra0 F_value_ra0 hl_ci3 hl_ci4 hl_ci5 hl_ci6 V_ra1 O2 P5 O4 rG3) hZ (own_w hw 72) (own_w hw 8) (lb rfl) (lb rfl)) q26a q26c (g := (mkF m 10 #[vR ra0] [(.int (2 : Int32)), (.int (0 : Int32)), (.ref ra0)])) rfl (by rw [hml]; rfl) (Steps.refl _) (argsL := [(.int (0 : Int32)), (.int (2 : Int32))]) (rest := []) (lenOf pd_11 rfl) rfl (lb rfl) (hb hby d5_10) (fun _ _ => ⟨rfl, eq1, (lb rfl), (lb rfl)⟩)
    dsimp only [Pt.U, Pt.locs, Pt.cells, Pt.slots] at X26 l26 y26 z26 st26 hQ26
    subst l26 y26 z26
    obtain ⟨o27, o28, kc29, rfl, Nq26, K26, f30, f31, f32, f33, f34, f35⟩ := hQ26
    have N26 := Fr.app N1 Nq26
    have g36 : n0 ≤ o27 := Nat.le_trans (own_osz OLD) f30
    have z37 : h0.size ≤ o27 := Nat.le_trans (Nat.le_refl _) f30
    have g38 : n0 ≤ o28 := Nat.le_trans (own_osz OLD) f31
    have z39 : h0.size ≤ o28 := Nat.le_trans (Nat.le_refl _) f31
    have ch40 := CHr.keep K26 all0 CH0.1
    have CH41 := CHr.trans CH0 ch40
    refine ot T26 (mkF m 13 #[vR ra0] [(.ref o27)]) st26 ?_
    have KEEP := ((Keep.refl h0 []).trans K26 all0)
    have F42 := (Nat.le_trans hk0 K26.1)
    exact own_leaveW (s := s) (vm0 := s.vm) X26 hS0 F42 hZ (own_EW hw) rfl CH41 hh hlk (v := some (.ref o27)) (fun h => by rw [hret] at h; cases h) (lb rfl) (lb rfl) (by exact (Or.inr (Or.inr (Or.inl ⟨o27, o28, kc29, hc23, hc24, hc25, rfl, N26, KEEP, z37, z39, f32, f33, f34, f35⟩)))) (fun fs hr => retOut X26 hx (t := (.object "java/lang/String")) hret rfl (Or.inr (Or.inr (Or.inr (Or.inr ⟨rfl, rfl, rfl⟩)))) (hb hby d5_13) hr)
  · obtain ⟨hc43, hc44, hc45, hc46, rfl, Nq1, eq1⟩ := hQ1
    have N1 := Fr.app N0 Nq1
    refine ot T1 (mkF m 8 #[vR ra0] [(.int (0 : Int32)), (.int (0 : Int32)), (.ref ra0)]) st1 ?_
    refine og T1 (mkF m 10 #[vR ra0] [(.int (1 : Int32)), (.int (0 : Int32)), (.ref ra0)]) (fun _ k => XS.iconst X1.here hx rfl (hb hby d5_8) (XS.iadd X1.here hx rfl (hb hby d5_9) rfl k)) ?_
    obtain ⟨cq47, kq47, q47a, q47b, q47c⟩ := isOf hZ eq1 E_ra0
    obtain ⟨_, _, ⟨T47, L47, k47, n47⟩, -, X47, ⟨Lc47, hQ47, l47, y47, z47⟩, st47⟩ := X1.virtualBack hx (y := y12) (z := y12) hown (mvT hZ (own_w hw 68)) (mvT hZ (own_w hw 69)) (notFace_of_selects (args := #[]) (mvT hZ (own_w hw 71))) (mvT hZ (own_w hw 71)) (mvT hZ (own_w hw 70)) (by decide) (backOf (W := 0) (rm14_115 l Z a0 hw ra0 ra1 kc2 ci3 ci4 ci5 ci6 G1 G3 h0 n0 OLD E_ra0 F_coder_ra0 F_value_ra0 hl_ci3 hl_ci4 hl_ci5 hl_ci6 V_ra1 O2 P5 O4 rG3) hZ (own_w hw 72) (own_w hw 8) (lb rfl) (lb rfl)) q47a q47c (g := (mkF m 10 #[vR ra0] [(.int (1 : Int32)), (.int (0 : Int32)), (.ref ra0)])) rfl (by rw [hml]; rfl) (Steps.refl _) (argsL := [(.int (0 : Int32)), (.int (1 : Int32))]) (rest := []) (lenOf pd_11 rfl) rfl (lb rfl) (hb hby d5_10) (fun _ _ => ⟨rfl, eq1, (lb rfl), (lb rfl)⟩)
    dsimp only [Pt.U, Pt.locs, Pt.cells, Pt.slots] at X47 l47 y47 z47 st47 hQ47
    subst l47 y47 z47
    obtain ⟨o48, o49, kc50, rfl, Nq47, K47, f51, f52, f53, f54, f55, f56⟩ := hQ47
    have N47 := Fr.app N1 Nq47
    have g57 : n0 ≤ o48 := Nat.le_trans (own_osz OLD) f51
    have z58 : h0.size ≤ o48 := Nat.le_trans (Nat.le_refl _) f51
    have g59 : n0 ≤ o49 := Nat.le_trans (own_osz OLD) f52
    have z60 : h0.size ≤ o49 := Nat.le_trans (Nat.le_refl _) f52
    have ch61 := CHr.keep K47 all0 CH0.1
    have CH62 := CHr.trans CH0 ch61
    refine ot T47 (mkF m 13 #[vR ra0] [(.ref o48)]) st47 ?_
    have KEEP := ((Keep.refl h0 []).trans K47 all0)
    have F63 := (Nat.le_trans hk0 K47.1)
    exact own_leaveW (s := s) (vm0 := s.vm) X47 hS0 F63 hZ (own_EW hw) rfl CH62 hh hlk (v := some (.ref o48)) (fun h => by rw [hret] at h; cases h) (lb rfl) (lb rfl) (by exact (Or.inr (Or.inr (Or.inr (Or.inl ⟨o48, o49, kc50, hc43, hc44, hc45, hc46, rfl, N47, KEEP, z58, z60, f53, f54, f55, f56⟩))))) (fun fs hr => retOut X47 hx (t := (.object "java/lang/String")) hret rfl (Or.inr (Or.inr (Or.inr (Or.inr ⟨rfl, rfl, rfl⟩)))) (hb hby d5_13) hr)
  · obtain ⟨hc64, hc65, hc66, hc67, rfl, Nq1, eq1⟩ := hQ1
    have N1 := Fr.app N0 Nq1
    refine ot T1 (mkF m 8 #[vR ra0] [(.int (-1 : Int32)), (.int (0 : Int32)), (.ref ra0)]) st1 ?_
    refine og T1 (mkF m 10 #[vR ra0] [(.int (0 : Int32)), (.int (0 : Int32)), (.ref ra0)]) (fun _ k => XS.iconst X1.here hx rfl (hb hby d5_8) (XS.iadd X1.here hx rfl (hb hby d5_9) rfl k)) ?_
    obtain ⟨cq68, kq68, q68a, q68b, q68c⟩ := isOf hZ eq1 E_ra0
    obtain ⟨_, _, ⟨T68, L68, k68, n68⟩, -, X68, hs68, hg68, ⟨Lc68, hQ68, l68, y68, z68, ch68⟩, st68⟩ := X1.virtualBackS hx (y := y12) (z := y12) hown (mvT hZ (own_w hw 68)) (mvT hZ (own_w hw 69)) (notFace_of_selects (args := #[]) (mvT hZ (own_w hw 71))) (mvT hZ (own_w hw 71)) (mvT hZ (own_w hw 70)) (by decide) (own_backSH (W := 0) (rm14_127 l Z a0 hw ra0 ra1 kc2 ci3 ci4 ci5 ci6 G1 G3 h0 n0 OLD E_ra0 F_coder_ra0 F_value_ra0 hl_ci3 hl_ci4 hl_ci5 hl_ci6 V_ra1 O2 P5 O4 rG3) hZ (own_w hw 72) (own_w hw 8) (lb rfl) (lb rfl) (own_EW hw) CH0.1 all0) q68a q68c (g := (mkF m 10 #[vR ra0] [(.int (0 : Int32)), (.int (0 : Int32)), (.ref ra0)])) rfl (by rw [hml]; rfl) (Steps.refl _) (argsL := [(.int (0 : Int32)), (.int (0 : Int32))]) (rest := []) (lenOf pd_11 rfl) rfl (lb rfl) (hb hby d5_10) (fun _ _ => ⟨rfl, eq1, (lb rfl), (lb rfl)⟩)
    dsimp only [Pt.U, Pt.locs, Pt.cells, Pt.slots] at X68 l68 y68 z68 st68 hQ68 hs68 hg68 ch68
    subst l68 y68 z68
    replace X68 := own_reb X68
    obtain ⟨hZ68, hS68, hown68⟩ := own_after hZ hS0 eq1 hk0 hs68 hg68 hown
    obtain ⟨o69, o70, kc71, rfl, Nq68, K68, f72, f73, f74, f75, f76, f77⟩ := hQ68
    have N68 := Fr.app N1 Nq68
    have CH78 := CHr.trans CH0 ch68
    refine ot T68 (mkF m 13 #[vR ra0] [(.ref o69)]) st68 ?_
    have KEEP := ((Keep.refl h0 []).trans K68 all0)
    exact own_leaveW (s := s) (vm0 := T68.vm) X68 hS68 (Nat.le_refl _) hZ68 (own_EW hw) rfl CH78 hh hlk (v := some (.ref o69)) (fun h => by rw [hret] at h; cases h) (lb rfl) (lb rfl) (by exact (Or.inr (Or.inr (Or.inr (Or.inr ⟨o69, o70, kc71, hc64, hc65, hc66, hc67, rfl, N68, KEEP, f72, f73, f74, f75, f76, f77⟩))))) (fun fs hr => retOut X68 hx (t := (.object "java/lang/String")) hret rfl (Or.inr (Or.inr (Or.inr (Or.inr ⟨rfl, rfl, rfl⟩)))) (hb hby d5_13) hr)
def Qlaw (Z : State) (pi0 : Int32) (pi1 : Int32) (pi2 : Int32) (pi3 : Int32) (pi4 : Int32) (G1 : Int32) (G3 : Value) (h0 : Heap) (n0 : Nat) (v : Option Value) (h : Heap) (L : List Loc) : Prop := (v = some (.int (1 : Int32)) ∧ Fr n0 L)
theorem rmlaw (l : Launch) (Z : State) (a0 : Array Value) (hw : HW Z a0) (pi0 : Int32) (pi1 : Int32) (pi2 : Int32) (pi3 : Int32) (pi4 : Int32) (G1 : Int32) (G3 : Value) (h0 : Heap) (n0 : Nat) (OLD : Old Z n0 h0) (O2 : Sta Z Z.heap "java/lang/String" "COMPACT_STRINGS" "Z" (.int G1)) (P5 : ¬ (G1 = (0 : Int32))) (O4 : Sta Z Z.heap "jdk/internal/util/Preconditions" "SIOOBE_FORMATTER" "Ljava/util/function/BiFunction;" G3) (rG3 : G3.isRef = true) :
    own_CW l Z x code maxLocals ret tables_1 room_1 #[(.int pi0), (.int pi1), (.int pi2), (.int pi3), (.int pi4)] h0 [] (Qlaw Z pi0 pi1 pi2 pi3 pi4 G1 G3 h0 n0) := by
  refine own_entryW (plainFor_of_name pn_0) fun p e s m below meth c s₁ hx hby hml hown hnm hret hlk hZ hh hCH hSf X0 e0 => ?_
  have N0 := Fr.nil n0
  have hS0 : s.Since s.vm h0.size := own_since s _
  have hk0 : h0.size ≤ h0.size := Nat.le_refl _
  have CH0 : CHr Z own_EL s.vm h0 s.vm h0 := CHr.refl hCH
  rw [ef_law m pi0 pi1 pi2 pi3 pi4]
  refine og s₁ (mkF m 2 #[vI pi0, vI pi1, vI pi2, vI pi3, vI pi4, vU, vU, vU, vU, vU, vU, vU, vU, vU] [(.int pi4)]) (fun _ k => XS.iload X0.here hx rfl (hb hby at_0) rfl k) ?_
  refine og s₁ (mkF m 4 #[vI pi0, vI pi1, vI pi2, vI pi3, vI pi4, vU, vU, vU, vU, vU, vU, vU, vU, vU] [(.int (2147483647 : Int32)), (.int pi4)]) (fun t k => X0.ldcInt hx hown (mvT hZ (own_w hw 0)) (g := (mkF m 2 #[vI pi0, vI pi1, vI pi2, vI pi3, vI pi4, vU, vU, vU, vU, vU, vU, vU, vU, vU] [(.int pi4)])) rfl (hb hby at_2) t k) ?_
  refine og s₁ (mkF m 10 #[vI pi0, vI pi1, vI pi2, vI pi3, vI pi4, vI ((pi4 &&& (2147483647 : Int32)) % (5 : Int32)), vU, vU, vU, vU, vU, vU, vU, vU] [(.int pi0)]) (fun _ k => XS.iand X0.here hx rfl (hb hby at_4) rfl (XS.iconst X0.here hx rfl (hb hby at_5) (Jvm.RoadKit.iremM X0 hx rfl (hb hby at_6) rfl (by decide) (XS.istore X0.here hx rfl (hb hby at_7) rfl (l' := #[vI pi0, vI pi1, vI pi2, vI pi3, vI pi4, vI ((pi4 &&& (2147483647 : Int32)) % (5 : Int32)), vU, vU, vU, vU, vU, vU, vU, vU]) rfl (XS.iloadN X0.here hx rfl (hb hby at_9) rfl k))))) ?_
  obtain ⟨_, _, ⟨T1, L1, k1, n1⟩, -, X1, ⟨Lc1, hQ1, l1, y1, z1⟩, st1⟩ := Jvm.LawKit.callS X0 hx (y := y0) hown (mvT hZ (own_w hw 1)) (mvT hZ (own_w hw 2)) (mvT hZ (own_w hw 3)) (mvT hZ (own_w hw 4)) (by decide) (backOf (W := 0) (rm1_2 l Z a0 hw pi0 h0 n0 OLD ) hZ (own_w hw 4) (own_w hw 3) (lb rfl) (lb rfl)) (g := (mkF m 10 #[vI pi0, vI pi1, vI pi2, vI pi3, vI pi4, vI ((pi4 &&& (2147483647 : Int32)) % (5 : Int32)), vU, vU, vU, vU, vU, vU, vU, vU] [(.int pi0)])) rfl (by rw [hml]; rfl) (argsL := [(.int pi0)]) (rest := []) (lenOf pd_0 rfl) rfl (lb rfl) (hb hby at_10) (fun _ _ => ⟨rfl, e0, (lb rfl), (lb rfl)⟩)
  dsimp only [Pt.U, Pt.locs, Pt.cells, Pt.slots] at X1 l1 y1 z1 st1 hQ1
  subst l1 y1 z1
  obtain ⟨rfl, Nq1, eq1⟩ := hQ1
  have N1 := Fr.app N0 Nq1
  refine og T1 (mkF m 13 #[vI pi0, vI pi1, vI pi2, vI pi3, vI pi4, vI ((pi4 &&& (2147483647 : Int32)) % (5 : Int32)), vU, vU, vU, vU, vU, vU, vU, vU] [(.int (own_ch pi0))]) st1 ?_
  refine og T1 (mkF m 16 #[vI pi0, vI pi1, vI pi2, vI pi3, vI pi4, vI ((pi4 &&& (2147483647 : Int32)) % (5 : Int32)), vI (own_ch pi0), vU, vU, vU, vU, vU, vU, vU] [(.int pi1)]) (fun _ k => XS.istore X1.here hx rfl (hb hby at_13) rfl (l' := #[vI pi0, vI pi1, vI pi2, vI pi3, vI pi4, vI ((pi4 &&& (2147483647 : Int32)) % (5 : Int32)), vI (own_ch pi0), vU, vU, vU, vU, vU, vU, vU]) rfl (XS.iloadN X1.here hx rfl (hb hby at_15) rfl k)) ?_
  obtain ⟨_, _, ⟨T2, L2, k2, n2⟩, -, X2, ⟨Lc2, hQ2, l2, y2, z2⟩, st2⟩ := Jvm.LawKit.callS X1 hx (y := y0) hown (mvT hZ (own_w hw 1)) (mvT hZ (own_w hw 2)) (mvT hZ (own_w hw 3)) (mvT hZ (own_w hw 4)) (by decide) (backOf (W := 0) (rm1_2 l Z a0 hw pi1 h0 n0 OLD ) hZ (own_w hw 4) (own_w hw 3) (lb rfl) (lb rfl)) (g := (mkF m 16 #[vI pi0, vI pi1, vI pi2, vI pi3, vI pi4, vI ((pi4 &&& (2147483647 : Int32)) % (5 : Int32)), vI (own_ch pi0), vU, vU, vU, vU, vU, vU, vU] [(.int pi1)])) rfl (by rw [hml]; rfl) (argsL := [(.int pi1)]) (rest := []) (lenOf pd_0 rfl) rfl (lb rfl) (hb hby at_16) (fun _ _ => ⟨rfl, eq1, (lb rfl), (lb rfl)⟩)
  dsimp only [Pt.U, Pt.locs, Pt.cells, Pt.slots] at X2 l2 y2 z2 st2 hQ2
  subst l2 y2 z2
  obtain ⟨rfl, Nq2, eq2⟩ := hQ2
  have N2 := Fr.app N1 Nq2
  refine og T2 (mkF m 19 #[vI pi0, vI pi1, vI pi2, vI pi3, vI pi4, vI ((pi4 &&& (2147483647 : Int32)) % (5 : Int32)), vI (own_ch pi0), vU, vU, vU, vU, vU, vU, vU] [(.int (own_ch pi1))]) st2 ?_
  refine og T2 (mkF m 22 #[vI pi0, vI pi1, vI pi2, vI pi3, vI pi4, vI ((pi4 &&& (2147483647 : Int32)) % (5 : Int32)), vI (own_ch pi0), vI (own_ch pi1), vU, vU, vU, vU, vU, vU] [(.int pi2)]) (fun _ k => XS.istore X2.here hx rfl (hb hby at_19) rfl (l' := #[vI pi0, vI pi1, vI pi2, vI pi3, vI pi4, vI ((pi4 &&& (2147483647 : Int32)) % (5 : Int32)), vI (own_ch pi0), vI (own_ch pi1), vU, vU, vU, vU, vU, vU]) rfl (XS.iloadN X2.here hx rfl (hb hby at_21) rfl k)) ?_
  obtain ⟨_, _, ⟨T3, L3, k3, n3⟩, -, X3, ⟨Lc3, hQ3, l3, y3, z3⟩, st3⟩ := Jvm.LawKit.callS X2 hx (y := y0) hown (mvT hZ (own_w hw 1)) (mvT hZ (own_w hw 2)) (mvT hZ (own_w hw 3)) (mvT hZ (own_w hw 4)) (by decide) (backOf (W := 0) (rm1_2 l Z a0 hw pi2 h0 n0 OLD ) hZ (own_w hw 4) (own_w hw 3) (lb rfl) (lb rfl)) (g := (mkF m 22 #[vI pi0, vI pi1, vI pi2, vI pi3, vI pi4, vI ((pi4 &&& (2147483647 : Int32)) % (5 : Int32)), vI (own_ch pi0), vI (own_ch pi1), vU, vU, vU, vU, vU, vU] [(.int pi2)])) rfl (by rw [hml]; rfl) (argsL := [(.int pi2)]) (rest := []) (lenOf pd_0 rfl) rfl (lb rfl) (hb hby at_22) (fun _ _ => ⟨rfl, eq2, (lb rfl), (lb rfl)⟩)
  dsimp only [Pt.U, Pt.locs, Pt.cells, Pt.slots] at X3 l3 y3 z3 st3 hQ3
  subst l3 y3 z3
  obtain ⟨rfl, Nq3, eq3⟩ := hQ3
  have N3 := Fr.app N2 Nq3
  refine og T3 (mkF m 25 #[vI pi0, vI pi1, vI pi2, vI pi3, vI pi4, vI ((pi4 &&& (2147483647 : Int32)) % (5 : Int32)), vI (own_ch pi0), vI (own_ch pi1), vU, vU, vU, vU, vU, vU] [(.int (own_ch pi2))]) st3 ?_
  refine og T3 (mkF m 28 #[vI pi0, vI pi1, vI pi2, vI pi3, vI pi4, vI ((pi4 &&& (2147483647 : Int32)) % (5 : Int32)), vI (own_ch pi0), vI (own_ch pi1), vI (own_ch pi2), vU, vU, vU, vU, vU] [(.int pi3)]) (fun _ k => XS.istore X3.here hx rfl (hb hby at_25) rfl (l' := #[vI pi0, vI pi1, vI pi2, vI pi3, vI pi4, vI ((pi4 &&& (2147483647 : Int32)) % (5 : Int32)), vI (own_ch pi0), vI (own_ch pi1), vI (own_ch pi2), vU, vU, vU, vU, vU]) rfl (XS.iloadN X3.here hx rfl (hb hby at_27) rfl k)) ?_
  obtain ⟨_, _, ⟨T4, L4, k4, n4⟩, -, X4, ⟨Lc4, hQ4, l4, y4, z4⟩, st4⟩ := Jvm.LawKit.callS X3 hx (y := y0) hown (mvT hZ (own_w hw 1)) (mvT hZ (own_w hw 2)) (mvT hZ (own_w hw 3)) (mvT hZ (own_w hw 4)) (by decide) (backOf (W := 0) (rm1_2 l Z a0 hw pi3 h0 n0 OLD ) hZ (own_w hw 4) (own_w hw 3) (lb rfl) (lb rfl)) (g := (mkF m 28 #[vI pi0, vI pi1, vI pi2, vI pi3, vI pi4, vI ((pi4 &&& (2147483647 : Int32)) % (5 : Int32)), vI (own_ch pi0), vI (own_ch pi1), vI (own_ch pi2), vU, vU, vU, vU, vU] [(.int pi3)])) rfl (by rw [hml]; rfl) (argsL := [(.int pi3)]) (rest := []) (lenOf pd_0 rfl) rfl (lb rfl) (hb hby at_28) (fun _ _ => ⟨rfl, eq3, (lb rfl), (lb rfl)⟩)
  dsimp only [Pt.U, Pt.locs, Pt.cells, Pt.slots] at X4 l4 y4 z4 st4 hQ4
  subst l4 y4 z4
  obtain ⟨rfl, Nq4, eq4⟩ := hQ4
  have N4 := Fr.app N3 Nq4
  refine og T4 (mkF m 31 #[vI pi0, vI pi1, vI pi2, vI pi3, vI pi4, vI ((pi4 &&& (2147483647 : Int32)) % (5 : Int32)), vI (own_ch pi0), vI (own_ch pi1), vI (own_ch pi2), vU, vU, vU, vU, vU] [(.int (own_ch pi3))]) st4 ?_
  refine og T4 (mkF m 33 #[vI pi0, vI pi1, vI pi2, vI pi3, vI pi4, vI ((pi4 &&& (2147483647 : Int32)) % (5 : Int32)), vI (own_ch pi0), vI (own_ch pi1), vI (own_ch pi2), vI (own_ch pi3), vU, vU, vU, vU] []) (fun _ k => XS.istore X4.here hx rfl (hb hby at_31) rfl (l' := #[vI pi0, vI pi1, vI pi2, vI pi3, vI pi4, vI ((pi4 &&& (2147483647 : Int32)) % (5 : Int32)), vI (own_ch pi0), vI (own_ch pi1), vI (own_ch pi2), vI (own_ch pi3), vU, vU, vU, vU]) rfl k) ?_
  rcases own_mod5 pi4 with hm | hm | hm | hm | hm
  · rw [hm]
    refine og T4 (mkF m 39 #[vI pi0, vI pi1, vI pi2, vI pi3, vI pi4, vI (0 : Int32), vI (own_ch pi0), vI (own_ch pi1), vI (own_ch pi2), vI (own_ch pi3), vU, vU, vU, vU] [(.int (0 : Int32))]) (fun _ k => XS.iload X4.here hx rfl (hb hby at_33) rfl (XS.ifNo X4.here hx rfl (hb hby at_35) rfl ((if0 _ _).trans (teq (by decide : (0 : Int32) = (0 : Int32))).2) (XS.iconst X4.here hx rfl (hb hby at_38) k))) ?_
    obtain ⟨T5, h5, k5, X5, e5, E5, A5, st5⟩ := newP X4 hx hZ (own_w hw 5) eq4 (g := (mkF m 39 #[vI pi0, vI pi1, vI pi2, vI pi3, vI pi4, vI (0 : Int32), vI (own_ch pi0), vI (own_ch pi1), vI (own_ch pi2), vI (own_ch pi3), vU, vU, vU, vU] [(.int (0 : Int32))])) rfl (hb hby at_39) rfl (by decide) (cap := 0) (by decide) (lb rfl) (lb rfl) (lb rfl)
    obtain ⟨b5, gb5⟩ : ∃ z, z = h0.size := ⟨_, rfl⟩
    rw [← gb5] at A5 st5
    have g6 : n0 ≤ b5 := Nat.le_trans (own_osz OLD) (Nat.le_of_eq gb5.symm)
    have z7 : h0.size ≤ b5 := Nat.le_trans (Nat.le_refl _) (Nat.le_of_eq gb5.symm)
    have ch8 := CHr.ext E5 CH0.1
    have CH9 := CHr.trans CH0 ch8
    have V5 : Arv Z h5 b5 k5 .char (0 : Int32) [] (.int (0 : Int32)) := (Arv.new A5 (by decide)).pad (pad_rep [] (.int (0 : Int32)) 0)
    refine og T5 (mkF m 41 #[vI pi0, vI pi1, vI pi2, vI pi3, vI pi4, vI (0 : Int32), vI (own_ch pi0), vI (own_ch pi1), vI (own_ch pi2), vI (own_ch pi3), vU, vU, vU, vU] [(.ref b5)]) st5 ?_
    refine og T5 (mkF m 143 #[vI pi0, vI pi1, vI pi2, vI pi3, vI pi4, vI (0 : Int32), vI (own_ch pi0), vI (own_ch pi1), vI (own_ch pi2), vI (own_ch pi3), vR b5, vU, vU, vU] []) (fun _ k => XS.astore X5.here hx rfl (hb hby at_41) rfl rfl (l' := #[vI pi0, vI pi1, vI pi2, vI pi3, vI pi4, vI (0 : Int32), vI (own_ch pi0), vI (own_ch pi1), vI (own_ch pi2), vI (own_ch pi3), vR b5, vU, vU, vU]) rfl (XS.goto X5.here hx rfl (pc0 := 43) (pc' := 143) rfl (hb hby at_43) (by decide) (by decide) k)) ?_
    obtain ⟨T10, h10, X10, e10, E10, A10, D10, -, st10⟩ := newO X5 hx hZ hown (own_w hw 6) (own_w hw 7) (own_w hw 8) e5 (g := (mkF m 143 #[vI pi0, vI pi1, vI pi2, vI pi3, vI pi4, vI (0 : Int32), vI (own_ch pi0), vI (own_ch pi1), vI (own_ch pi2), vI (own_ch pi3), vR b5, vU, vU, vU] [])) rfl (hb hby at_143) (lb rfl) (lb rfl)
    obtain ⟨b10, gb10⟩ : ∃ z, z = h5.size := ⟨_, rfl⟩
    rw [← gb10] at A10 D10 st10
    have F12 := (OLD.ext E5)
    have g11 : n0 ≤ b10 := Nat.le_trans (own_osz F12) (Nat.le_of_eq gb10.symm)
    have F14 := (Nat.le_trans (Nat.le_refl _) E5.1)
    have z13 : h0.size ≤ b10 := Nat.le_trans F14 (Nat.le_of_eq gb10.symm)
    have ch15 := CHr.ext E10 CH9.1
    have CH16 := CHr.trans CH9 ch15
    have sf17 := own_safe_new CH9.1 E10 (Nat.le_of_eq gb10.symm)
    refine og T10 (mkF m 146 #[vI pi0, vI pi1, vI pi2, vI pi3, vI pi4, vI (0 : Int32), vI (own_ch pi0), vI (own_ch pi1), vI (own_ch pi2), vI (own_ch pi3), vR b5, vU, vU, vU] [(.ref b10)]) st10 ?_
    refine og T10 (mkF m 149 #[vI pi0, vI pi1, vI pi2, vI pi3, vI pi4, vI (0 : Int32), vI (own_ch pi0), vI (own_ch pi1), vI (own_ch pi2), vI (own_ch pi3), vR b5, vU, vU, vU] [(.ref b5), (.ref b10), (.ref b10)]) (fun _ k => XS.dup X10.here hx rfl (hb hby at_146) rfl rfl (XS.aload X10.here hx rfl (hb hby at_147) rfl rfl k)) ?_
    have F18 := (V5.ext E10)
    have F19 := (F12.ext E10)
    obtain ⟨_, _, ⟨T20, L20, k20, n20⟩, -, X20, hs20, hg20, ⟨Lc20, hQ20, l20, y20, z20, ch20⟩, st20⟩ := X10.specialBackS hx (y := y2) rfl hown (mvT hZ (own_w hw 9)) (mvT hZ (own_w hw 10)) (mvT hZ (own_w hw 11)) (by decide) (own_backSH (W := 1) (rm2_6 l Z a0 hw b10 b5 k5 h10 n0 F19 A10 (D10 (Or.inr (own_w hw 22)) (ty := .byte) (by decide)) (D10 (Or.inr (own_w hw 21)) (ty := (.array .byte)) (by decide)) F18 g11) hZ (own_w hw 11) (own_w hw 8) (lb rfl) (lb rfl) (own_EW hw) CH16.1 (allS ⟨A10.lt, sf17⟩ all0)) (g := (mkF m 149 #[vI pi0, vI pi1, vI pi2, vI pi3, vI pi4, vI (0 : Int32), vI (own_ch pi0), vI (own_ch pi1), vI (own_ch pi2), vI (own_ch pi3), vR b5, vU, vU, vU] [(.ref b5), (.ref b10), (.ref b10)])) rfl (by rw [hml]; rfl) (Steps.refl _) (a := b10) (argsL := [(.ref b5)]) (rest := [(.ref b10)]) (lenOf pd_2 rfl) rfl (lb rfl) (hb hby at_149) (fun _ _ => ⟨rfl, e10, (lb rfl), (lb rfl)⟩)
    dsimp only [Pt.U, Pt.locs, Pt.cells, Pt.slots] at X20 l20 y20 z20 st20 hQ20 hs20 hg20 ch20
    subst l20 y20 z20
    replace X20 := own_reb X20
    have F21 := (Nat.le_trans (Nat.le_trans hk0 E5.1) E10.1)
    obtain ⟨hZ20, hS20, hown20⟩ := own_after hZ hS0 e10 F21 hs20 hg20 hown
    obtain ⟨o22, kc23, rfl, Nq20, K20, f24, f25, f26, f27⟩ := hQ20
    have N20 := Fr.app N4 Nq20
    have CH28 := CHr.trans CH16 ch20
    refine ot T20 (mkF m 152 #[vI pi0, vI pi1, vI pi2, vI pi3, vI pi4, vI (0 : Int32), vI (own_ch pi0), vI (own_ch pi1), vI (own_ch pi2), vI (own_ch pi3), vR b5, vU, vU, vU] [(.ref b10)]) st20 ?_
    refine og T20 (mkF m 191 #[vI pi0, vI pi1, vI pi2, vI pi3, vI pi4, vI (0 : Int32), vI (own_ch pi0), vI (own_ch pi1), vI (own_ch pi2), vI (own_ch pi3), vR b5, vR b10, vI (0 : Int32), vU] [(.int (2 : Int32)), (.int (0 : Int32))]) (fun _ k => XS.astore X20.here hx rfl (hb hby at_152) rfl rfl (l' := #[vI pi0, vI pi1, vI pi2, vI pi3, vI pi4, vI (0 : Int32), vI (own_ch pi0), vI (own_ch pi1), vI (own_ch pi2), vI (own_ch pi3), vR b5, vR b10, vU, vU]) rfl (XS.iconst X20.here hx rfl (hb hby at_154) (XS.istore X20.here hx rfl (hb hby at_155) rfl (l' := #[vI pi0, vI pi1, vI pi2, vI pi3, vI pi4, vI (0 : Int32), vI (own_ch pi0), vI (own_ch pi1), vI (own_ch pi2), vI (own_ch pi3), vR b5, vR b10, vI (0 : Int32), vU]) rfl (XS.iload X20.here hx rfl (hb hby at_157) rfl (XS.ifYes X20.here hx rfl (pc0 := 159) (pc' := 172) rfl (hb hby at_159) rfl ((if0 _ _).trans (flt (by decide : ¬ ((0 : Int32) < (0 : Int32)))).2.2.2) (by decide) (by decide) (XS.iload X20.here hx rfl (hb hby at_172) rfl (XS.iconst X20.here hx rfl (hb hby at_174) (XS.icmpYes X20.here hx rfl (pc0 := 175) (pc' := 188) rfl (hb hby at_175) rfl (flt (by decide : ¬ ((1 : Int32) < (0 : Int32)))).2.2.2 (by decide) (by decide) (XS.iload X20.here hx rfl (hb hby at_188) rfl (XS.iconst X20.here hx rfl (hb hby at_190) k)))))))))) ?_
    refine og T20 (mkF m 222 #[vI pi0, vI pi1, vI pi2, vI pi3, vI pi4, vI (0 : Int32), vI (own_ch pi0), vI (own_ch pi1), vI (own_ch pi2), vI (own_ch pi3), vR b5, vR b10, vI (0 : Int32), vU] [(.ref b10)]) (fun _ k => XS.icmpYes X20.here hx rfl (pc0 := 191) (pc' := 204) rfl (hb hby at_191) rfl (flt (by decide : ¬ ((2 : Int32) < (0 : Int32)))).2.2.2 (by decide) (by decide) (XS.iload X20.here hx rfl (hb hby at_204) rfl (XS.iconst X20.here hx rfl (hb hby at_206) (XS.icmpYes X20.here hx rfl (pc0 := 207) (pc' := 220) rfl (hb hby at_207) rfl (flt (by decide : ¬ ((3 : Int32) < (0 : Int32)))).2.2.2 (by decide) (by decide) (XS.aload X20.here hx rfl (hb hby at_220) rfl rfl k))))) ?_
    have F29 := (A10.keep K20)
    have F30 := (F19.keep K20 (allS g11 all0))
    obtain ⟨_, _, ⟨T31, L31, k31, n31⟩, -, X31, ⟨Lc31, hQ31, l31, y31, z31⟩, st31⟩ := Jvm.LawKit.callS X20 hx (y := y13) hown20 (mvT hZ20 (own_w hw 27)) (mvT hZ20 (own_w hw 28)) (mvT hZ20 (own_w hw 29)) (mvT hZ20 (own_w hw 30)) (by decide) (backOf (W := 0) (rm5_7 l Z a0 hw b10 o22 kc23 G1 G3 T20.heap n0 F30 F29 f25 f26 f27 O2 P5 O4 rG3) hZ20 (own_w hw 30) (own_w hw 29) (lb rfl) (lb rfl)) (g := (mkF m 222 #[vI pi0, vI pi1, vI pi2, vI pi3, vI pi4, vI (0 : Int32), vI (own_ch pi0), vI (own_ch pi1), vI (own_ch pi2), vI (own_ch pi3), vR b5, vR b10, vI (0 : Int32), vU] [(.ref b10)])) rfl (by rw [hml]; rfl) (argsL := [(.ref b10)]) (rest := []) (lenOf pd_12 rfl) rfl (lb rfl) (hb hby at_222) (fun _ _ => ⟨rfl, rfl, (lb rfl), (lb rfl)⟩)
    dsimp only [Pt.U, Pt.locs, Pt.cells, Pt.slots] at X31 l31 y31 z31 st31 hQ31
    subst l31 y31 z31
    obtain ⟨rfl, Nq31, eq31⟩ := hQ31
    have N31 := Fr.app N20 Nq31
    refine og T31 (mkF m 225 #[vI pi0, vI pi1, vI pi2, vI pi3, vI pi4, vI (0 : Int32), vI (own_ch pi0), vI (own_ch pi1), vI (own_ch pi2), vI (own_ch pi3), vR b5, vR b10, vI (0 : Int32), vU] [(.ref b10)]) st31 ?_
    refine og T31 (mkF m 227 #[vI pi0, vI pi1, vI pi2, vI pi3, vI pi4, vI (0 : Int32), vI (own_ch pi0), vI (own_ch pi1), vI (own_ch pi2), vI (own_ch pi3), vR b5, vR b10, vI (0 : Int32), vR b10] []) (fun _ k => XS.astore X31.here hx rfl (hb hby at_225) rfl rfl (l' := #[vI pi0, vI pi1, vI pi2, vI pi3, vI pi4, vI (0 : Int32), vI (own_ch pi0), vI (own_ch pi1), vI (own_ch pi2), vI (own_ch pi3), vR b5, vR b10, vI (0 : Int32), vR b10]) rfl k) ?_
    refine og T31 (mkF m 229 #[vI pi0, vI pi1, vI pi2, vI pi3, vI pi4, vI (0 : Int32), vI (own_ch pi0), vI (own_ch pi1), vI (own_ch pi2), vI (own_ch pi3), vR b5, vR b10, vI (0 : Int32), vR b10] [(.ref b10)]) (fun _ k => XS.aload X31.here hx rfl (hb hby at_227) rfl rfl k) ?_
    have hp32 : ∀ c ∈ ([] : List Int32), ¬ c < 0 ∧ ¬ (255 : Int32) < c := by
      intro c hc
      cases hc
    obtain ⟨cq33, kq33, q33a, q33b, q33c⟩ := isOf hZ20 eq31 F29
    obtain ⟨_, _, ⟨T33, L33, k33, n33⟩, -, X33, ⟨Lc33, hQ33, l33, y33, z33⟩, st33⟩ := X31.virtualBack hx (y := y3) (z := y3) hown20 (mvT hZ20 (own_w hw 81)) (mvT hZ20 (own_w hw 37)) (notFace_of_selects (args := #[]) (mvT hZ20 (own_w hw 39))) (mvT hZ20 (own_w hw 39)) (mvT hZ20 (own_w hw 38)) (by decide) (StrChars.Road.lenW (W := 0) hZ20 (own_hln hw) (kI := 4) (own_w hw 7) (cs := ([] : List Int32)) F29 f26 f25 f27 (StrChars.Road.codOf rfl (fun c hc => (hp32 c hc).2)) (own_up _ hp32) (O2.ext F30.2) P5 (lb rfl) (lb rfl) (lb rfl)) q33a q33c (g := (mkF m 229 #[vI pi0, vI pi1, vI pi2, vI pi3, vI pi4, vI (0 : Int32), vI (own_ch pi0), vI (own_ch pi1), vI (own_ch pi2), vI (own_ch pi3), vR b5, vR b10, vI (0 : Int32), vR b10] [(.ref b10)])) rfl (by rw [hml]; rfl) (Steps.refl _) (argsL := []) (rest := []) (lenOf pd_3 rfl) rfl (lb rfl) (hb hby at_229) (fun _ _ => ⟨rfl, eq31, (lb rfl), (lb rfl)⟩)
    dsimp only [Pt.U, Pt.locs, Pt.cells, Pt.slots] at X33 l33 y33 z33 st33 hQ33
    subst l33 y33 z33
    obtain ⟨rfl, rfl, eq33⟩ := hQ33
    have N33 := Fr.app N31 (Fr.nil n0)
    refine ot T33 (mkF m 232 #[vI pi0, vI pi1, vI pi2, vI pi3, vI pi4, vI (0 : Int32), vI (own_ch pi0), vI (own_ch pi1), vI (own_ch pi2), vI (own_ch pi3), vR b5, vR b10, vI (0 : Int32), vR b10] [(.int (0 : Int32))]) st33 ?_
    refine og T33 (mkF m 295 #[vI pi0, vI pi1, vI pi2, vI pi3, vI pi4, vI (0 : Int32), vI (own_ch pi0), vI (own_ch pi1), vI (own_ch pi2), vI (own_ch pi3), vR b5, vR b10, vI (0 : Int32), vR b10] []) (fun _ k => XS.iload X33.here hx rfl (hb hby at_232) rfl (XS.icmpYes X33.here hx rfl (pc0 := 234) (pc' := 239) rfl (hb hby at_234) rfl (teq (by decide : (0 : Int32) = (0 : Int32))).1 (by decide) (by decide) (XS.iload X33.here hx rfl (hb hby at_239) rfl (XS.ifYes X33.here hx rfl (pc0 := 241) (pc' := 257) rfl (hb hby at_241) rfl ((if0 _ _).trans (flt (by decide : ¬ ((0 : Int32) < (0 : Int32)))).2.2.2) (by decide) (by decide) (XS.iload X33.here hx rfl (hb hby at_257) rfl (XS.iconst X33.here hx rfl (hb hby at_259) (XS.icmpYes X33.here hx rfl (pc0 := 260) (pc' := 276) rfl (hb hby at_260) rfl (flt (by decide : ¬ ((1 : Int32) < (0 : Int32)))).2.2.2 (by decide) (by decide) (XS.iload X33.here hx rfl (hb hby at_276) rfl (XS.iconst X33.here hx rfl (hb hby at_278) (XS.icmpYes X33.here hx rfl (pc0 := 279) (pc' := 295) rfl (hb hby at_279) rfl (flt (by decide : ¬ ((2 : Int32) < (0 : Int32)))).2.2.2 (by decide) (by decide) k)))))))))) ?_
    refine og T33 (mkF m 315 #[vI pi0, vI pi1, vI pi2, vI pi3, vI pi4, vI (0 : Int32), vI (own_ch pi0), vI (own_ch pi1), vI (own_ch pi2), vI (own_ch pi3), vR b5, vR b10, vI (0 : Int32), vR b10] [(.int (1 : Int32))]) (fun _ k => XS.iload X33.here hx rfl (hb hby at_295) rfl (XS.iconst X33.here hx rfl (hb hby at_297) (XS.icmpYes X33.here hx rfl (pc0 := 298) (pc' := 314) rfl (hb hby at_298) rfl (flt (by decide : ¬ ((3 : Int32) < (0 : Int32)))).2.2.2 (by decide) (by decide) (XS.iconst X33.here hx rfl (hb hby at_314) k)))) ?_
    exact own_leaveW (s := s) (vm0 := T20.vm) X33 hS20 (Nat.le_refl _) hZ20 (own_EW hw) eq33 CH28 hh hlk (v := some (.int (nar .boolean (1 : Int32)))) (fun h => by rw [hret] at h; cases h) (lb rfl) (lb rfl) (by rw [eq33]; exact ⟨rfl, N33⟩) (fun fs hr => retN X33 hx (t := .boolean) hret (by simp) (hb hby at_315) hr)
  · rw [hm]
    refine og T4 (mkF m 53 #[vI pi0, vI pi1, vI pi2, vI pi3, vI pi4, vI (1 : Int32), vI (own_ch pi0), vI (own_ch pi1), vI (own_ch pi2), vI (own_ch pi3), vU, vU, vU, vU] [(.int (1 : Int32))]) (fun _ k => XS.iload X4.here hx rfl (hb hby at_33) rfl (XS.ifYes X4.here hx rfl (pc0 := 35) (pc' := 46) rfl (hb hby at_35) rfl ((if0 _ _).trans (feq (by decide : ¬ ((1 : Int32) = (0 : Int32)))).2) (by decide) (by decide) (XS.iload X4.here hx rfl (hb hby at_46) rfl (XS.iconst X4.here hx rfl (hb hby at_48) (XS.icmpNo X4.here hx rfl (hb hby at_49) rfl (teq (by decide : (1 : Int32) = (1 : Int32))).2 (XS.iconst X4.here hx rfl (hb hby at_52) k)))))) ?_
    obtain ⟨T34, h34, k34, X34, e34, E34, A34, st34⟩ := newP X4 hx hZ (own_w hw 5) eq4 (g := (mkF m 53 #[vI pi0, vI pi1, vI pi2, vI pi3, vI pi4, vI (1 : Int32), vI (own_ch pi0), vI (own_ch pi1), vI (own_ch pi2), vI (own_ch pi3), vU, vU, vU, vU] [(.int (1 : Int32))])) rfl (hb hby at_53) rfl (by decide) (cap := 1) (by decide) (lb rfl) (lb rfl) (lb rfl)
    obtain ⟨b34, gb34⟩ : ∃ z, z = h0.size := ⟨_, rfl⟩
    rw [← gb34] at A34 st34
    have g35 : n0 ≤ b34 := Nat.le_trans (own_osz OLD) (Nat.le_of_eq gb34.symm)
    have z36 : h0.size ≤ b34 := Nat.le_trans (Nat.le_refl _) (Nat.le_of_eq gb34.symm)
    have ch37 := CHr.ext E34 CH0.1
    have CH38 := CHr.trans CH0 ch37
    have V34 : Arv Z h34 b34 k34 .char (1 : Int32) [(.int (0 : Int32))] (.int (0 : Int32)) := (Arv.new A34 (by decide)).pad (pad_rep [] (.int (0 : Int32)) 1)
    refine og T34 (mkF m 55 #[vI pi0, vI pi1, vI pi2, vI pi3, vI pi4, vI (1 : Int32), vI (own_ch pi0), vI (own_ch pi1), vI (own_ch pi2), vI (own_ch pi3), vU, vU, vU, vU] [(.ref b34)]) st34 ?_
    refine og T34 (mkF m 59 #[vI pi0, vI pi1, vI pi2, vI pi3, vI pi4, vI (1 : Int32), vI (own_ch pi0), vI (own_ch pi1), vI (own_ch pi2), vI (own_ch pi3), vU, vU, vU, vU] [(.int (own_ch pi0)), (.int (0 : Int32)), (.ref b34), (.ref b34)]) (fun _ k => XS.dup X34.here hx rfl (hb hby at_55) rfl rfl (XS.iconst X34.here hx rfl (hb hby at_56) (XS.iload X34.here hx rfl (hb hby at_57) rfl k))) ?_
    obtain ⟨cl39, Ar39, qr39, Sr39, Nr39, Hr39, Gr39⟩ := id V34
    obtain ⟨T39, h39, X39, e39, W39, st39⟩ := stC X34 hx hZ e34 Ar39 (j := (0 : Int32)) (inb_of Sr39 ⟨by decide, by decide⟩) (g := (mkF m 59 #[vI pi0, vI pi1, vI pi2, vI pi3, vI pi4, vI (1 : Int32), vI (own_ch pi0), vI (own_ch pi1), vI (own_ch pi2), vI (own_ch pi3), vU, vU, vU, vU] [(.int (own_ch pi0)), (.int (0 : Int32)), (.ref b34), (.ref b34)])) rfl rfl (hb hby at_59)
    have V39 : Arv Z h39 b34 k34 .char (1 : Int32) [(.int (nar .char (own_ch pi0)))] (.int (0 : Int32)) := Arv.set Ar39 qr39 Sr39 Nr39 Hr39 Gr39 (fits_nar_char _) W39 0 rfl (lb rfl)
    rw [show nar .char (own_ch pi0) = (own_ch pi0) from (own_ncl (own_chl _))] at V39
    obtain ⟨_, q41, -⟩ := id V34
    have ch40 := CHr.wr W39 (Safe.arr hZ.alike q41 nofun) CH38.1
    have CH42 := CHr.trans CH38 ch40
    have N39 := Fr.snoc X39 N4 g35
    refine og T39 (mkF m 60 #[vI pi0, vI pi1, vI pi2, vI pi3, vI pi4, vI (1 : Int32), vI (own_ch pi0), vI (own_ch pi1), vI (own_ch pi2), vI (own_ch pi3), vU, vU, vU, vU] [(.ref b34)]) st39 ?_
    refine og T39 (mkF m 143 #[vI pi0, vI pi1, vI pi2, vI pi3, vI pi4, vI (1 : Int32), vI (own_ch pi0), vI (own_ch pi1), vI (own_ch pi2), vI (own_ch pi3), vR b34, vU, vU, vU] []) (fun _ k => XS.astore X39.here hx rfl (hb hby at_60) rfl rfl (l' := #[vI pi0, vI pi1, vI pi2, vI pi3, vI pi4, vI (1 : Int32), vI (own_ch pi0), vI (own_ch pi1), vI (own_ch pi2), vI (own_ch pi3), vR b34, vU, vU, vU]) rfl (XS.goto X39.here hx rfl (pc0 := 62) (pc' := 143) rfl (hb hby at_62) (by decide) (by decide) k)) ?_
    obtain ⟨T43, h43, X43, e43, E43, A43, D43, -, st43⟩ := newO X39 hx hZ hown (own_w hw 6) (own_w hw 7) (own_w hw 8) e39 (g := (mkF m 143 #[vI pi0, vI pi1, vI pi2, vI pi3, vI pi4, vI (1 : Int32), vI (own_ch pi0), vI (own_ch pi1), vI (own_ch pi2), vI (own_ch pi3), vR b34, vU, vU, vU] [])) rfl (hb hby at_143) (lb rfl) (lb rfl)
    obtain ⟨b43, gb43⟩ : ∃ z, z = h39.size := ⟨_, rfl⟩
    rw [← gb43] at A43 D43 st43
    have F45 := ((OLD.ext E34).wr W39 g35)
    have g44 : n0 ≤ b43 := Nat.le_trans (own_osz F45) (Nat.le_of_eq gb43.symm)
    have F47 := (Nat.le_trans (Nat.le_trans (Nat.le_refl _) E34.1) (Nat.le_of_eq W39.size.symm))
    have z46 : h0.size ≤ b43 := Nat.le_trans F47 (Nat.le_of_eq gb43.symm)
    have ch48 := CHr.ext E43 CH42.1
    have CH49 := CHr.trans CH42 ch48
    have sf50 := own_safe_new CH42.1 E43 (Nat.le_of_eq gb43.symm)
    refine og T43 (mkF m 146 #[vI pi0, vI pi1, vI pi2, vI pi3, vI pi4, vI (1 : Int32), vI (own_ch pi0), vI (own_ch pi1), vI (own_ch pi2), vI (own_ch pi3), vR b34, vU, vU, vU] [(.ref b43)]) st43 ?_
    refine og T43 (mkF m 149 #[vI pi0, vI pi1, vI pi2, vI pi3, vI pi4, vI (1 : Int32), vI (own_ch pi0), vI (own_ch pi1), vI (own_ch pi2), vI (own_ch pi3), vR b34, vU, vU, vU] [(.ref b34), (.ref b43), (.ref b43)]) (fun _ k => XS.dup X43.here hx rfl (hb hby at_146) rfl rfl (XS.aload X43.here hx rfl (hb hby at_147) rfl rfl k)) ?_
    have F51 := (V39.ext E43)
    have hp52 : ∀ c ∈ ([(own_ch pi0)] : List Int32), ¬ c < 0 ∧ ¬ (255 : Int32) < c := by
      intro c hc
      simp only [List.mem_cons, List.not_mem_nil, or_false] at hc
      rcases hc with rfl
      · exact (own_chl _)
    have F53 := (F45.ext E43)
    obtain ⟨_, _, ⟨T54, L54, k54, n54⟩, -, X54, ⟨Lc54, hQ54, l54, y54, z54⟩, st54⟩ := X43.specialBack hx (y := y2) rfl hown (mvT hZ (own_w hw 9)) (mvT hZ (own_w hw 10)) (mvT hZ (own_w hw 11)) (by decide) (StrChars.Road.backV (W := 1) hZ (own_hws hw) (kI := 4) (own_w hw 7) (cs := ([(own_ch pi0)] : List Int32)) (bs := (([(own_ch pi0)] : List Int32).map (fun c => c.toInt8.toInt32))) (n := 1) g44 (own_osz F53) A43 (D43 (Or.inr (own_w hw 21)) (ty := (.array .byte)) (by decide)) (D43 (Or.inr (own_w hw 22)) (ty := .byte) (by decide)) F51 (O2.ext F53.2) P5 rfl rfl (by decide) (by decide) hp52 rfl (lb rfl) (lb rfl)) (g := (mkF m 149 #[vI pi0, vI pi1, vI pi2, vI pi3, vI pi4, vI (1 : Int32), vI (own_ch pi0), vI (own_ch pi1), vI (own_ch pi2), vI (own_ch pi3), vR b34, vU, vU, vU] [(.ref b34), (.ref b43), (.ref b43)])) rfl (by rw [hml]; rfl) (Steps.refl _) (a := b43) (argsL := [(.ref b34)]) (rest := [(.ref b43)]) (lenOf pd_2 rfl) rfl (lb rfl) (hb hby at_149) (fun _ _ => ⟨rfl, e43, (lb rfl), (lb rfl)⟩)
    dsimp only [Pt.U, Pt.locs, Pt.cells, Pt.slots] at X54 l54 y54 z54 st54 hQ54
    subst l54 y54 z54
    obtain ⟨rfl, Nq54, K54, Ex54, Fc54, t54, kb54, -, lo54, -, Fv54, Av54⟩ := hQ54
    have N54 := Fr.app N39 Nq54
    have g55 : n0 ≤ t54 := Nat.le_trans (own_osz F53) lo54
    have F57 := (Nat.le_trans F47 E43.1)
    have z56 : h0.size ≤ t54 := Nat.le_trans F57 lo54
    have ch58 := CHr.keep K54 (allS sf50 all0) CH49.1
    have CH59 := CHr.trans CH49 ch58
    refine ot T54 (mkF m 152 #[vI pi0, vI pi1, vI pi2, vI pi3, vI pi4, vI (1 : Int32), vI (own_ch pi0), vI (own_ch pi1), vI (own_ch pi2), vI (own_ch pi3), vR b34, vU, vU, vU] [(.ref b43)]) st54 ?_
    refine og T54 (mkF m 166 #[vI pi0, vI pi1, vI pi2, vI pi3, vI pi4, vI (1 : Int32), vI (own_ch pi0), vI (own_ch pi1), vI (own_ch pi2), vI (own_ch pi3), vR b34, vR b43, vI (0 : Int32), vU] [(.int (46 : Int32)), (.int (own_ch pi0))]) (fun _ k => XS.astore X54.here hx rfl (hb hby at_152) rfl rfl (l' := #[vI pi0, vI pi1, vI pi2, vI pi3, vI pi4, vI (1 : Int32), vI (own_ch pi0), vI (own_ch pi1), vI (own_ch pi2), vI (own_ch pi3), vR b34, vR b43, vU, vU]) rfl (XS.iconst X54.here hx rfl (hb hby at_154) (XS.istore X54.here hx rfl (hb hby at_155) rfl (l' := #[vI pi0, vI pi1, vI pi2, vI pi3, vI pi4, vI (1 : Int32), vI (own_ch pi0), vI (own_ch pi1), vI (own_ch pi2), vI (own_ch pi3), vR b34, vR b43, vI (0 : Int32), vU]) rfl (XS.iload X54.here hx rfl (hb hby at_157) rfl (XS.ifNo X54.here hx rfl (hb hby at_159) rfl ((if0 _ _).trans (tlt (by decide : (0 : Int32) < (1 : Int32))).2.2.2) (XS.iload X54.here hx rfl (hb hby at_162) rfl (XS.bipush X54.here hx rfl (hb hby at_164) k))))))) ?_
    have J60 : own_Fin p.tables e below (own_PW s Z own_EL (Qlaw Z pi0 pi1 pi2 pi3 pi4 G1 G3 h0 n0) room_1.cells room_1.slots) T54 (mkF m 172 #[vI pi0, vI pi1, vI pi2, vI pi3, vI pi4, vI (1 : Int32), vI (own_ch pi0), vI (own_ch pi1), vI (own_ch pi2), vI (own_ch pi3), vR b34, vR b43, vI (own_k (1 : Int32) (own_ch pi0) (0 : Int32)), vU] []) → own_Fin p.tables e below (own_PW s Z own_EL (Qlaw Z pi0 pi1 pi2 pi3 pi4 G1 G3 h0 n0) room_1.cells room_1.slots) T54 (mkF m 166 #[vI pi0, vI pi1, vI pi2, vI pi3, vI pi4, vI (1 : Int32), vI (own_ch pi0), vI (own_ch pi1), vI (own_ch pi2), vI (own_ch pi3), vR b34, vR b43, vI (0 : Int32), vU] [(.int (46 : Int32)), (.int (own_ch pi0))]) := by
      intro k0
      by_cases hc61 : (own_ch pi0) = (46 : Int32)
      · refine og T54 (mkF m 172 #[vI pi0, vI pi1, vI pi2, vI pi3, vI pi4, vI (1 : Int32), vI (own_ch pi0), vI (own_ch pi1), vI (own_ch pi2), vI (own_ch pi3), vR b34, vR b43, vI (1 : Int32), vU] []) (fun _ k => XS.icmpNo X54.here hx rfl (hb hby at_166) rfl (teq hc61).2 (XS.iconst X54.here hx rfl (hb hby at_169) (XS.istore X54.here hx rfl (hb hby at_170) rfl (l' := #[vI pi0, vI pi1, vI pi2, vI pi3, vI pi4, vI (1 : Int32), vI (own_ch pi0), vI (own_ch pi1), vI (own_ch pi2), vI (own_ch pi3), vR b34, vR b43, vI (1 : Int32), vU]) rfl k))) ?_
        rw [own_k1 hc61] at k0; exact k0
      · refine og T54 (mkF m 172 #[vI pi0, vI pi1, vI pi2, vI pi3, vI pi4, vI (1 : Int32), vI (own_ch pi0), vI (own_ch pi1), vI (own_ch pi2), vI (own_ch pi3), vR b34, vR b43, vI (0 : Int32), vU] []) (fun _ k => XS.icmpYes X54.here hx rfl (pc0 := 166) (pc' := 172) rfl (hb hby at_166) rfl (feq hc61).2 (by decide) (by decide) k) ?_
        rw [own_k0 hc61] at k0; exact k0
    refine J60 ?_
    refine og T54 (mkF m 222 #[vI pi0, vI pi1, vI pi2, vI pi3, vI pi4, vI (1 : Int32), vI (own_ch pi0), vI (own_ch pi1), vI (own_ch pi2), vI (own_ch pi3), vR b34, vR b43, vI (own_k (1 : Int32) (own_ch pi0) (0 : Int32)), vU] [(.ref b43)]) (fun _ k => XS.iload X54.here hx rfl (hb hby at_172) rfl (XS.iconst X54.here hx rfl (hb hby at_174) (XS.icmpYes X54.here hx rfl (pc0 := 175) (pc' := 188) rfl (hb hby at_175) rfl (flt (by decide : ¬ ((1 : Int32) < (1 : Int32)))).2.2.2 (by decide) (by decide) (XS.iload X54.here hx rfl (hb hby at_188) rfl (XS.iconst X54.here hx rfl (hb hby at_190) (XS.icmpYes X54.here hx rfl (pc0 := 191) (pc' := 204) rfl (hb hby at_191) rfl (flt (by decide : ¬ ((2 : Int32) < (1 : Int32)))).2.2.2 (by decide) (by decide) (XS.iload X54.here hx rfl (hb hby at_204) rfl (XS.iconst X54.here hx rfl (hb hby at_206) (XS.icmpYes X54.here hx rfl (pc0 := 207) (pc' := 220) rfl (hb hby at_207) rfl (flt (by decide : ¬ ((3 : Int32) < (1 : Int32)))).2.2.2 (by decide) (by decide) (XS.aload X54.here hx rfl (hb hby at_220) rfl rfl k)))))))))) ?_
    have F62 := (F53.keep K54 (allS g44 all0))
    obtain ⟨_, _, ⟨T63, L63, k63, n63⟩, -, X63, hs63, hg63, ⟨Lc63, hQ63, l63, y63, z63, ch63⟩, st63⟩ := callSS X54 hx (y := y13) hown (mvT hZ (own_w hw 27)) (mvT hZ (own_w hw 28)) (mvT hZ (own_w hw 29)) (mvT hZ (own_w hw 30)) (by decide) (own_backSH (W := 0) (rm5_32 l Z a0 hw b43 t54 kb54 ((own_ch pi0)) G1 G3 T54.heap n0 F62 Ex54 Fc54 Fv54 (own_chl _) Av54 O2 P5 O4 rG3) hZ (own_w hw 30) (own_w hw 29) (lb rfl) (lb rfl) (own_EW hw) CH59.1 all0) (g := (mkF m 222 #[vI pi0, vI pi1, vI pi2, vI pi3, vI pi4, vI (1 : Int32), vI (own_ch pi0), vI (own_ch pi1), vI (own_ch pi2), vI (own_ch pi3), vR b34, vR b43, vI (own_k (1 : Int32) (own_ch pi0) (0 : Int32)), vU] [(.ref b43)])) rfl (by rw [hml]; rfl) (argsL := [(.ref b43)]) (rest := []) (lenOf pd_12 rfl) rfl (lb rfl) (hb hby at_222) (fun _ _ => ⟨rfl, rfl, (lb rfl), (lb rfl)⟩)
    dsimp only [Pt.U, Pt.locs, Pt.cells, Pt.slots] at X63 l63 y63 z63 st63 hQ63 hs63 hg63 ch63
    subst l63 y63 z63
    replace X63 := own_reb X63
    have F64 := (Nat.le_trans (Nat.le_trans (Nat.le_trans (Nat.le_trans hk0 E34.1) (Nat.le_of_eq W39.size.symm)) E43.1) K54.1)
    obtain ⟨hZ63, hS63, hown63⟩ := own_after hZ hS0 rfl F64 hs63 hg63 hown
    rcases hQ63 with hQ63 | hQ63
    · obtain ⟨hc65, rfl, Nq63, eq63⟩ := hQ63
      have N63 := Fr.app N54 Nq63
      rw [eq63] at ch63 hS63
      have CH66 := CHr.trans CH59 ch63
      refine ot T63 (mkF m 225 #[vI pi0, vI pi1, vI pi2, vI pi3, vI pi4, vI (1 : Int32), vI (own_ch pi0), vI (own_ch pi1), vI (own_ch pi2), vI (own_ch pi3), vR b34, vR b43, vI (own_k (1 : Int32) (own_ch pi0) (0 : Int32)), vU] [(.ref b43)]) st63 ?_
      refine og T63 (mkF m 227 #[vI pi0, vI pi1, vI pi2, vI pi3, vI pi4, vI (1 : Int32), vI (own_ch pi0), vI (own_ch pi1), vI (own_ch pi2), vI (own_ch pi3), vR b34, vR b43, vI (own_k (1 : Int32) (own_ch pi0) (0 : Int32)), vR b43] []) (fun _ k => XS.astore X63.here hx rfl (hb hby at_225) rfl rfl (l' := #[vI pi0, vI pi1, vI pi2, vI pi3, vI pi4, vI (1 : Int32), vI (own_ch pi0), vI (own_ch pi1), vI (own_ch pi2), vI (own_ch pi3), vR b34, vR b43, vI (own_k (1 : Int32) (own_ch pi0) (0 : Int32)), vR b43]) rfl k) ?_
      have hd67 := own_c46 (own_chl _) hc65
      have hk68 : (own_k (1 : Int32) (own_ch pi0) (0 : Int32)) = (1 : Int32) := by simp only [own_k, hd67, if_true, if_false, if_pos, if_neg, not_false_eq_true, reduceIte]
      rw [hk68]
      refine og T63 (mkF m 229 #[vI pi0, vI pi1, vI pi2, vI pi3, vI pi4, vI (1 : Int32), vI (own_ch pi0), vI (own_ch pi1), vI (own_ch pi2), vI (own_ch pi3), vR b34, vR b43, vI (1 : Int32), vR b43] [(.ref b43)]) (fun _ k => XS.aload X63.here hx rfl (hb hby at_227) rfl rfl k) ?_
      obtain ⟨cq69, kq69, q69a, q69b, q69c⟩ := isOf hZ63 eq63 Ex54
      obtain ⟨_, _, ⟨T69, L69, k69, n69⟩, -, X69, ⟨Lc69, hQ69, l69, y69, z69⟩, st69⟩ := X63.virtualBack hx (y := y3) (z := y3) hown63 (mvT hZ63 (own_w hw 81)) (mvT hZ63 (own_w hw 37)) (notFace_of_selects (args := #[]) (mvT hZ63 (own_w hw 39))) (mvT hZ63 (own_w hw 39)) (mvT hZ63 (own_w hw 38)) (by decide) (StrChars.Road.lenW (W := 0) hZ63 (own_hln hw) (kI := 4) (own_w hw 7) (cs := ([(own_ch pi0)] : List Int32)) Ex54 Fv54 Fc54 Av54 (StrChars.Road.codOf rfl (fun c hc => (hp52 c hc).2)) (own_up _ hp52) (O2.ext F62.2) P5 (lb rfl) (lb rfl) (lb rfl)) q69a q69c (g := (mkF m 229 #[vI pi0, vI pi1, vI pi2, vI pi3, vI pi4, vI (1 : Int32), vI (own_ch pi0), vI (own_ch pi1), vI (own_ch pi2), vI (own_ch pi3), vR b34, vR b43, vI (1 : Int32), vR b43] [(.ref b43)])) rfl (by rw [hml]; rfl) (Steps.refl _) (argsL := []) (rest := []) (lenOf pd_3 rfl) rfl (lb rfl) (hb hby at_229) (fun _ _ => ⟨rfl, eq63, (lb rfl), (lb rfl)⟩)
      dsimp only [Pt.U, Pt.locs, Pt.cells, Pt.slots] at X69 l69 y69 z69 st69 hQ69
      subst l69 y69 z69
      obtain ⟨rfl, rfl, eq69⟩ := hQ69
      have N69 := Fr.app N63 (Fr.nil n0)
      refine ot T69 (mkF m 232 #[vI pi0, vI pi1, vI pi2, vI pi3, vI pi4, vI (1 : Int32), vI (own_ch pi0), vI (own_ch pi1), vI (own_ch pi2), vI (own_ch pi3), vR b34, vR b43, vI (1 : Int32), vR b43] [(.int (1 : Int32))]) st69 ?_
      refine og T69 (mkF m 247 #[vI pi0, vI pi1, vI pi2, vI pi3, vI pi4, vI (1 : Int32), vI (own_ch pi0), vI (own_ch pi1), vI (own_ch pi2), vI (own_ch pi3), vR b34, vR b43, vI (1 : Int32), vR b43] [(.int (0 : Int32)), (.ref b43)]) (fun _ k => XS.iload X69.here hx rfl (hb hby at_232) rfl (XS.icmpYes X69.here hx rfl (pc0 := 234) (pc' := 239) rfl (hb hby at_234) rfl (teq (by decide : (1 : Int32) = (1 : Int32))).1 (by decide) (by decide) (XS.iload X69.here hx rfl (hb hby at_239) rfl (XS.ifNo X69.here hx rfl (hb hby at_241) rfl ((if0 _ _).trans (tlt (by decide : (0 : Int32) < (1 : Int32))).2.2.2) (XS.aload X69.here hx rfl (hb hby at_244) rfl rfl (XS.iconst X69.here hx rfl (hb hby at_246) k)))))) ?_
      obtain ⟨cq70, kq70, q70a, q70b, q70c⟩ := isOf hZ63 eq69 Ex54
      obtain ⟨_, _, ⟨T70, L70, k70, n70⟩, -, X70, ⟨Lc70, hQ70, l70, y70, z70⟩, st70⟩ := X69.virtualBack hx (y := y15) (z := y15) hown63 (mvT hZ63 (own_w hw 114)) (mvT hZ63 (own_w hw 115)) (notFace_of_selects (args := #[]) (mvT hZ63 (own_w hw 117))) (mvT hZ63 (own_w hw 117)) (mvT hZ63 (own_w hw 116)) (by decide) (StrChars.Road.chN (W := 0) hZ63 (own_hch hw) (kI := 4) (own_w hw 7) (cs := ([(own_ch pi0)] : List Int32)) (i := 0) Ex54 Fv54 Fc54 Av54 (StrChars.Road.codOf rfl (fun c hc => (hp52 c hc).2)) (own_up _ hp52) (O2.ext F62.2) P5 (O4.ext F62.2) rG3 (lb rfl) (lb rfl) rfl (lb rfl) (lb rfl)) q70a q70c (g := (mkF m 247 #[vI pi0, vI pi1, vI pi2, vI pi3, vI pi4, vI (1 : Int32), vI (own_ch pi0), vI (own_ch pi1), vI (own_ch pi2), vI (own_ch pi3), vR b34, vR b43, vI (1 : Int32), vR b43] [(.int (0 : Int32)), (.ref b43)])) rfl (by rw [hml]; rfl) (Steps.refl _) (argsL := [(.int (0 : Int32))]) (rest := []) (lenOf pd_0 rfl) rfl (lb rfl) (hb hby at_247) (fun _ _ => ⟨rfl, eq69, (lb rfl), (lb rfl)⟩)
      dsimp only [Pt.U, Pt.locs, Pt.cells, Pt.slots] at X70 l70 y70 z70 st70 hQ70
      subst l70 y70 z70
      obtain ⟨rfl, rfl, eq70⟩ := hQ70
      have N70 := Fr.app N69 (Fr.nil n0)
      refine ot T70 (mkF m 250 #[vI pi0, vI pi1, vI pi2, vI pi3, vI pi4, vI (1 : Int32), vI (own_ch pi0), vI (own_ch pi1), vI (own_ch pi2), vI (own_ch pi3), vR b34, vR b43, vI (1 : Int32), vR b43] [(.int (own_ch pi0))]) st70 ?_
      refine og T70 (mkF m 298 #[vI pi0, vI pi1, vI pi2, vI pi3, vI pi4, vI (1 : Int32), vI (own_ch pi0), vI (own_ch pi1), vI (own_ch pi2), vI (own_ch pi3), vR b34, vR b43, vI (1 : Int32), vR b43] [(.int (3 : Int32)), (.int (1 : Int32))]) (fun _ k => XS.iload X70.here hx rfl (hb hby at_250) rfl (XS.icmpYes X70.here hx rfl (pc0 := 252) (pc' := 257) rfl (hb hby at_252) rfl (teq (rfl : (own_ch pi0) = (own_ch pi0))).1 (by decide) (by decide) (XS.iload X70.here hx rfl (hb hby at_257) rfl (XS.iconst X70.here hx rfl (hb hby at_259) (XS.icmpYes X70.here hx rfl (pc0 := 260) (pc' := 276) rfl (hb hby at_260) rfl (flt (by decide : ¬ ((1 : Int32) < (1 : Int32)))).2.2.2 (by decide) (by decide) (XS.iload X70.here hx rfl (hb hby at_276) rfl (XS.iconst X70.here hx rfl (hb hby at_278) (XS.icmpYes X70.here hx rfl (pc0 := 279) (pc' := 295) rfl (hb hby at_279) rfl (flt (by decide : ¬ ((2 : Int32) < (1 : Int32)))).2.2.2 (by decide) (by decide) (XS.iload X70.here hx rfl (hb hby at_295) rfl (XS.iconst X70.here hx rfl (hb hby at_297) k)))))))))) ?_
      refine og T70 (mkF m 315 #[vI pi0, vI pi1, vI pi2, vI pi3, vI pi4, vI (1 : Int32), vI (own_ch pi0), vI (own_ch pi1), vI (own_ch pi2), vI (own_ch pi3), vR b34, vR b43, vI (1 : Int32), vR b43] [(.int (1 : Int32))]) (fun _ k => XS.icmpYes X70.here hx rfl (pc0 := 298) (pc' := 314) rfl (hb hby at_298) rfl (flt (by decide : ¬ ((3 : Int32) < (1 : Int32)))).2.2.2 (by decide) (by decide) (XS.iconst X70.here hx rfl (hb hby at_314) k)) ?_
      exact own_leaveW (s := s) (vm0 := T63.vm) X70 hS63 (Nat.le_refl _) hZ63 (own_EW hw) eq70 CH66 hh hlk (v := some (.int (nar .boolean (1 : Int32)))) (fun h => by rw [hret] at h; cases h) (lb rfl) (lb rfl) (by rw [eq70]; exact ⟨rfl, N70⟩) (fun fs hr => retN X70 hx (t := .boolean) hret (by simp) (hb hby at_315) hr)
    · obtain ⟨o71, o72, kc73, hc74, rfl, Nq63, K63, f75, f76, f77, f78, f79, f80⟩ := hQ63
      have N63 := Fr.app N54 Nq63
      have CH81 := CHr.trans CH59 ch63
      refine ot T63 (mkF m 225 #[vI pi0, vI pi1, vI pi2, vI pi3, vI pi4, vI (1 : Int32), vI (own_ch pi0), vI (own_ch pi1), vI (own_ch pi2), vI (own_ch pi3), vR b34, vR b43, vI (own_k (1 : Int32) (own_ch pi0) (0 : Int32)), vU] [(.ref o71)]) st63 ?_
      refine og T63 (mkF m 227 #[vI pi0, vI pi1, vI pi2, vI pi3, vI pi4, vI (1 : Int32), vI (own_ch pi0), vI (own_ch pi1), vI (own_ch pi2), vI (own_ch pi3), vR b34, vR b43, vI (own_k (1 : Int32) (own_ch pi0) (0 : Int32)), vR o71] []) (fun _ k => XS.astore X63.here hx rfl (hb hby at_225) rfl rfl (l' := #[vI pi0, vI pi1, vI pi2, vI pi3, vI pi4, vI (1 : Int32), vI (own_ch pi0), vI (own_ch pi1), vI (own_ch pi2), vI (own_ch pi3), vR b34, vR b43, vI (own_k (1 : Int32) (own_ch pi0) (0 : Int32)), vR o71]) rfl k) ?_
      have hd82 := own_c46n (own_chl _) hc74
      have hk83 : (own_k (1 : Int32) (own_ch pi0) (0 : Int32)) = (0 : Int32) := by simp only [own_k, hd82, if_true, if_false, if_pos, if_neg, not_false_eq_true, reduceIte]
      rw [hk83]
      refine og T63 (mkF m 229 #[vI pi0, vI pi1, vI pi2, vI pi3, vI pi4, vI (1 : Int32), vI (own_ch pi0), vI (own_ch pi1), vI (own_ch pi2), vI (own_ch pi3), vR b34, vR b43, vI (0 : Int32), vR o71] [(.ref o71)]) (fun _ k => XS.aload X63.here hx rfl (hb hby at_227) rfl rfl k) ?_
      have hp84 : ∀ c ∈ ([] : List Int32), ¬ c < 0 ∧ ¬ (255 : Int32) < c := by
        intro c hc
        cases hc
      have F85 := (F62.keep K63 all0)
      obtain ⟨cq86, kq86, q86a, q86b, q86c⟩ := isOf hZ63 rfl f77
      obtain ⟨_, _, ⟨T86, L86, k86, n86⟩, -, X86, ⟨Lc86, hQ86, l86, y86, z86⟩, st86⟩ := X63.virtualBack hx (y := y3) (z := y3) hown63 (mvT hZ63 (own_w hw 81)) (mvT hZ63 (own_w hw 37)) (notFace_of_selects (args := #[]) (mvT hZ63 (own_w hw 39))) (mvT hZ63 (own_w hw 39)) (mvT hZ63 (own_w hw 38)) (by decide) (StrChars.Road.lenW (W := 0) hZ63 (own_hln hw) (kI := 4) (own_w hw 7) (cs := ([] : List Int32)) f77 f79 f78 f80 (StrChars.Road.codOf rfl (fun c hc => (hp84 c hc).2)) (own_up _ hp84) (O2.ext F85.2) P5 (lb rfl) (lb rfl) (lb rfl)) q86a q86c (g := (mkF m 229 #[vI pi0, vI pi1, vI pi2, vI pi3, vI pi4, vI (1 : Int32), vI (own_ch pi0), vI (own_ch pi1), vI (own_ch pi2), vI (own_ch pi3), vR b34, vR b43, vI (0 : Int32), vR o71] [(.ref o71)])) rfl (by rw [hml]; rfl) (Steps.refl _) (argsL := []) (rest := []) (lenOf pd_3 rfl) rfl (lb rfl) (hb hby at_229) (fun _ _ => ⟨rfl, rfl, (lb rfl), (lb rfl)⟩)
      dsimp only [Pt.U, Pt.locs, Pt.cells, Pt.slots] at X86 l86 y86 z86 st86 hQ86
      subst l86 y86 z86
      obtain ⟨rfl, rfl, eq86⟩ := hQ86
      have N86 := Fr.app N63 (Fr.nil n0)
      refine ot T86 (mkF m 232 #[vI pi0, vI pi1, vI pi2, vI pi3, vI pi4, vI (1 : Int32), vI (own_ch pi0), vI (own_ch pi1), vI (own_ch pi2), vI (own_ch pi3), vR b34, vR b43, vI (0 : Int32), vR o71] [(.int (0 : Int32))]) st86 ?_
      refine og T86 (mkF m 295 #[vI pi0, vI pi1, vI pi2, vI pi3, vI pi4, vI (1 : Int32), vI (own_ch pi0), vI (own_ch pi1), vI (own_ch pi2), vI (own_ch pi3), vR b34, vR b43, vI (0 : Int32), vR o71] []) (fun _ k => XS.iload X86.here hx rfl (hb hby at_232) rfl (XS.icmpYes X86.here hx rfl (pc0 := 234) (pc' := 239) rfl (hb hby at_234) rfl (teq (by decide : (0 : Int32) = (0 : Int32))).1 (by decide) (by decide) (XS.iload X86.here hx rfl (hb hby at_239) rfl (XS.ifYes X86.here hx rfl (pc0 := 241) (pc' := 257) rfl (hb hby at_241) rfl ((if0 _ _).trans (flt (by decide : ¬ ((0 : Int32) < (0 : Int32)))).2.2.2) (by decide) (by decide) (XS.iload X86.here hx rfl (hb hby at_257) rfl (XS.iconst X86.here hx rfl (hb hby at_259) (XS.icmpYes X86.here hx rfl (pc0 := 260) (pc' := 276) rfl (hb hby at_260) rfl (flt (by decide : ¬ ((1 : Int32) < (0 : Int32)))).2.2.2 (by decide) (by decide) (XS.iload X86.here hx rfl (hb hby at_276) rfl (XS.iconst X86.here hx rfl (hb hby at_278) (XS.icmpYes X86.here hx rfl (pc0 := 279) (pc' := 295) rfl (hb hby at_279) rfl (flt (by decide : ¬ ((2 : Int32) < (0 : Int32)))).2.2.2 (by decide) (by decide) k)))))))))) ?_
      refine og T86 (mkF m 315 #[vI pi0, vI pi1, vI pi2, vI pi3, vI pi4, vI (1 : Int32), vI (own_ch pi0), vI (own_ch pi1), vI (own_ch pi2), vI (own_ch pi3), vR b34, vR b43, vI (0 : Int32), vR o71] [(.int (1 : Int32))]) (fun _ k => XS.iload X86.here hx rfl (hb hby at_295) rfl (XS.iconst X86.here hx rfl (hb hby at_297) (XS.icmpYes X86.here hx rfl (pc0 := 298) (pc' := 314) rfl (hb hby at_298) rfl (flt (by decide : ¬ ((3 : Int32) < (0 : Int32)))).2.2.2 (by decide) (by decide) (XS.iconst X86.here hx rfl (hb hby at_314) k)))) ?_
      exact own_leaveW (s := s) (vm0 := T63.vm) X86 hS63 (Nat.le_refl _) hZ63 (own_EW hw) eq86 CH81 hh hlk (v := some (.int (nar .boolean (1 : Int32)))) (fun h => by rw [hret] at h; cases h) (lb rfl) (lb rfl) (by rw [eq86]; exact ⟨rfl, N86⟩) (fun fs hr => retN X86 hx (t := .boolean) hret (by simp) (hb hby at_315) hr)
  · rw [hm]
    refine og T4 (mkF m 72 #[vI pi0, vI pi1, vI pi2, vI pi3, vI pi4, vI (2 : Int32), vI (own_ch pi0), vI (own_ch pi1), vI (own_ch pi2), vI (own_ch pi3), vU, vU, vU, vU] [(.int (2 : Int32))]) (fun _ k => XS.iload X4.here hx rfl (hb hby at_33) rfl (XS.ifYes X4.here hx rfl (pc0 := 35) (pc' := 46) rfl (hb hby at_35) rfl ((if0 _ _).trans (feq (by decide : ¬ ((2 : Int32) = (0 : Int32)))).2) (by decide) (by decide) (XS.iload X4.here hx rfl (hb hby at_46) rfl (XS.iconst X4.here hx rfl (hb hby at_48) (XS.icmpYes X4.here hx rfl (pc0 := 49) (pc' := 65) rfl (hb hby at_49) rfl (feq (by decide : ¬ ((2 : Int32) = (1 : Int32)))).2 (by decide) (by decide) (XS.iload X4.here hx rfl (hb hby at_65) rfl (XS.iconst X4.here hx rfl (hb hby at_67) (XS.icmpNo X4.here hx rfl (hb hby at_68) rfl (teq (by decide : (2 : Int32) = (2 : Int32))).2 (XS.iconst X4.here hx rfl (hb hby at_71) k))))))))) ?_
    obtain ⟨T87, h87, k87, X87, e87, E87, A87, st87⟩ := newP X4 hx hZ (own_w hw 5) eq4 (g := (mkF m 72 #[vI pi0, vI pi1, vI pi2, vI pi3, vI pi4, vI (2 : Int32), vI (own_ch pi0), vI (own_ch pi1), vI (own_ch pi2), vI (own_ch pi3), vU, vU, vU, vU] [(.int (2 : Int32))])) rfl (hb hby at_72) rfl (by decide) (cap := 2) (by decide) (lb rfl) (lb rfl) (lb rfl)
    obtain ⟨b87, gb87⟩ : ∃ z, z = h0.size := ⟨_, rfl⟩
    rw [← gb87] at A87 st87
    have g88 : n0 ≤ b87 := Nat.le_trans (own_osz OLD) (Nat.le_of_eq gb87.symm)
    have z89 : h0.size ≤ b87 := Nat.le_trans (Nat.le_refl _) (Nat.le_of_eq gb87.symm)
    have ch90 := CHr.ext E87 CH0.1
    have CH91 := CHr.trans CH0 ch90
    have V87 : Arv Z h87 b87 k87 .char (2 : Int32) [(.int (0 : Int32)), (.int (0 : Int32))] (.int (0 : Int32)) := (Arv.new A87 (by decide)).pad (pad_rep [] (.int (0 : Int32)) 2)
    refine og T87 (mkF m 74 #[vI pi0, vI pi1, vI pi2, vI pi3, vI pi4, vI (2 : Int32), vI (own_ch pi0), vI (own_ch pi1), vI (own_ch pi2), vI (own_ch pi3), vU, vU, vU, vU] [(.ref b87)]) st87 ?_
    refine og T87 (mkF m 78 #[vI pi0, vI pi1, vI pi2, vI pi3, vI pi4, vI (2 : Int32), vI (own_ch pi0), vI (own_ch pi1), vI (own_ch pi2), vI (own_ch pi3), vU, vU, vU, vU] [(.int (own_ch pi0)), (.int (0 : Int32)), (.ref b87), (.ref b87)]) (fun _ k => XS.dup X87.here hx rfl (hb hby at_74) rfl rfl (XS.iconst X87.here hx rfl (hb hby at_75) (XS.iload X87.here hx rfl (hb hby at_76) rfl k))) ?_
    obtain ⟨cl92, Ar92, qr92, Sr92, Nr92, Hr92, Gr92⟩ := id V87
    obtain ⟨T92, h92, X92, e92, W92, st92⟩ := stC X87 hx hZ e87 Ar92 (j := (0 : Int32)) (inb_of Sr92 ⟨by decide, by decide⟩) (g := (mkF m 78 #[vI pi0, vI pi1, vI pi2, vI pi3, vI pi4, vI (2 : Int32), vI (own_ch pi0), vI (own_ch pi1), vI (own_ch pi2), vI (own_ch pi3), vU, vU, vU, vU] [(.int (own_ch pi0)), (.int (0 : Int32)), (.ref b87), (.ref b87)])) rfl rfl (hb hby at_78)
    have V92 : Arv Z h92 b87 k87 .char (2 : Int32) [(.int (nar .char (own_ch pi0))), (.int (0 : Int32))] (.int (0 : Int32)) := Arv.set Ar92 qr92 Sr92 Nr92 Hr92 Gr92 (fits_nar_char _) W92 0 rfl (lb rfl)
    rw [show nar .char (own_ch pi0) = (own_ch pi0) from (own_ncl (own_chl _))] at V92
    obtain ⟨_, q94, -⟩ := id V87
    have ch93 := CHr.wr W92 (Safe.arr hZ.alike q94 nofun) CH91.1
    have CH95 := CHr.trans CH91 ch93
    have N92 := Fr.snoc X92 N4 g88
    refine og T92 (mkF m 79 #[vI pi0, vI pi1, vI pi2, vI pi3, vI pi4, vI (2 : Int32), vI (own_ch pi0), vI (own_ch pi1), vI (own_ch pi2), vI (own_ch pi3), vU, vU, vU, vU] [(.ref b87)]) st92 ?_
    refine og T92 (mkF m 83 #[vI pi0, vI pi1, vI pi2, vI pi3, vI pi4, vI (2 : Int32), vI (own_ch pi0), vI (own_ch pi1), vI (own_ch pi2), vI (own_ch pi3), vU, vU, vU, vU] [(.int (own_ch pi1)), (.int (1 : Int32)), (.ref b87), (.ref b87)]) (fun _ k => XS.dup X92.here hx rfl (hb hby at_79) rfl rfl (XS.iconst X92.here hx rfl (hb hby at_80) (XS.iload X92.here hx rfl (hb hby at_81) rfl k))) ?_
    obtain ⟨cl96, Ar96, qr96, Sr96, Nr96, Hr96, Gr96⟩ := id V92
    obtain ⟨T96, h96, X96, e96, W96, st96⟩ := stC X92 hx hZ e92 Ar96 (j := (1 : Int32)) (inb_of Sr96 ⟨by decide, by decide⟩) (g := (mkF m 83 #[vI pi0, vI pi1, vI pi2, vI pi3, vI pi4, vI (2 : Int32), vI (own_ch pi0), vI (own_ch pi1), vI (own_ch pi2), vI (own_ch pi3), vU, vU, vU, vU] [(.int (own_ch pi1)), (.int (1 : Int32)), (.ref b87), (.ref b87)])) rfl rfl (hb hby at_83)
    have V96 : Arv Z h96 b87 k87 .char (2 : Int32) [(.int (own_ch pi0)), (.int (nar .char (own_ch pi1)))] (.int (0 : Int32)) := Arv.set Ar96 qr96 Sr96 Nr96 Hr96 Gr96 (fits_nar_char _) W96 1 rfl (lb rfl)
    rw [show nar .char (own_ch pi1) = (own_ch pi1) from (own_ncl (own_chl _))] at V96
    obtain ⟨_, q98, -⟩ := id V92
    have ch97 := CHr.wr W96 (Safe.arr hZ.alike q98 nofun) CH95.1
    have CH99 := CHr.trans CH95 ch97
    have N96 := Fr.snoc X96 N92 g88
    refine og T96 (mkF m 84 #[vI pi0, vI pi1, vI pi2, vI pi3, vI pi4, vI (2 : Int32), vI (own_ch pi0), vI (own_ch pi1), vI (own_ch pi2), vI (own_ch pi3), vU, vU, vU, vU] [(.ref b87)]) st96 ?_
    refine og T96 (mkF m 143 #[vI pi0, vI pi1, vI pi2, vI pi3, vI pi4, vI (2 : Int32), vI (own_ch pi0), vI (own_ch pi1), vI (own_ch pi2), vI (own_ch pi3), vR b87, vU, vU, vU] []) (fun _ k => XS.astore X96.here hx rfl (hb hby at_84) rfl rfl (l' := #[vI pi0, vI pi1, vI pi2, vI pi3, vI pi4, vI (2 : Int32), vI (own_ch pi0), vI (own_ch pi1), vI (own_ch pi2), vI (own_ch pi3), vR b87, vU, vU, vU]) rfl (XS.goto X96.here hx rfl (pc0 := 86) (pc' := 143) rfl (hb hby at_86) (by decide) (by decide) k)) ?_
    obtain ⟨T100, h100, X100, e100, E100, A100, D100, -, st100⟩ := newO X96 hx hZ hown (own_w hw 6) (own_w hw 7) (own_w hw 8) e96 (g := (mkF m 143 #[vI pi0, vI pi1, vI pi2, vI pi3, vI pi4, vI (2 : Int32), vI (own_ch pi0), vI (own_ch pi1), vI (own_ch pi2), vI (own_ch pi3), vR b87, vU, vU, vU] [])) rfl (hb hby at_143) (lb rfl) (lb rfl)
    obtain ⟨b100, gb100⟩ : ∃ z, z = h96.size := ⟨_, rfl⟩
    rw [← gb100] at A100 D100 st100
    have F102 := (((OLD.ext E87).wr W92 g88).wr W96 g88)
    have g101 : n0 ≤ b100 := Nat.le_trans (own_osz F102) (Nat.le_of_eq gb100.symm)
    have F104 := (Nat.le_trans (Nat.le_trans (Nat.le_trans (Nat.le_refl _) E87.1) (Nat.le_of_eq W92.size.symm)) (Nat.le_of_eq W96.size.symm))
    have z103 : h0.size ≤ b100 := Nat.le_trans F104 (Nat.le_of_eq gb100.symm)
    have ch105 := CHr.ext E100 CH99.1
    have CH106 := CHr.trans CH99 ch105
    have sf107 := own_safe_new CH99.1 E100 (Nat.le_of_eq gb100.symm)
    refine og T100 (mkF m 146 #[vI pi0, vI pi1, vI pi2, vI pi3, vI pi4, vI (2 : Int32), vI (own_ch pi0), vI (own_ch pi1), vI (own_ch pi2), vI (own_ch pi3), vR b87, vU, vU, vU] [(.ref b100)]) st100 ?_
    refine og T100 (mkF m 149 #[vI pi0, vI pi1, vI pi2, vI pi3, vI pi4, vI (2 : Int32), vI (own_ch pi0), vI (own_ch pi1), vI (own_ch pi2), vI (own_ch pi3), vR b87, vU, vU, vU] [(.ref b87), (.ref b100), (.ref b100)]) (fun _ k => XS.dup X100.here hx rfl (hb hby at_146) rfl rfl (XS.aload X100.here hx rfl (hb hby at_147) rfl rfl k)) ?_
    have F108 := (V96.ext E100)
    have hp109 : ∀ c ∈ ([(own_ch pi0), (own_ch pi1)] : List Int32), ¬ c < 0 ∧ ¬ (255 : Int32) < c := by
      intro c hc
      simp only [List.mem_cons, List.not_mem_nil, or_false] at hc
      rcases hc with rfl | rfl
      · exact (own_chl _)
      · exact (own_chl _)
    have F110 := (F102.ext E100)
    obtain ⟨_, _, ⟨T111, L111, k111, n111⟩, -, X111, ⟨Lc111, hQ111, l111, y111, z111⟩, st111⟩ := X100.specialBack hx (y := y2) rfl hown (mvT hZ (own_w hw 9)) (mvT hZ (own_w hw 10)) (mvT hZ (own_w hw 11)) (by decide) (StrChars.Road.backV (W := 1) hZ (own_hws hw) (kI := 4) (own_w hw 7) (cs := ([(own_ch pi0), (own_ch pi1)] : List Int32)) (bs := (([(own_ch pi0), (own_ch pi1)] : List Int32).map (fun c => c.toInt8.toInt32))) (n := 2) g101 (own_osz F110) A100 (D100 (Or.inr (own_w hw 21)) (ty := (.array .byte)) (by decide)) (D100 (Or.inr (own_w hw 22)) (ty := .byte) (by decide)) F108 (O2.ext F110.2) P5 rfl rfl (by decide) (by decide) hp109 rfl (lb rfl) (lb rfl)) (g := (mkF m 149 #[vI pi0, vI pi1, vI pi2, vI pi3, vI pi4, vI (2 : Int32), vI (own_ch pi0), vI (own_ch pi1), vI (own_ch pi2), vI (own_ch pi3), vR b87, vU, vU, vU] [(.ref b87), (.ref b100), (.ref b100)])) rfl (by rw [hml]; rfl) (Steps.refl _) (a := b100) (argsL := [(.ref b87)]) (rest := [(.ref b100)]) (lenOf pd_2 rfl) rfl (lb rfl) (hb hby at_149) (fun _ _ => ⟨rfl, e100, (lb rfl), (lb rfl)⟩)
    dsimp only [Pt.U, Pt.locs, Pt.cells, Pt.slots] at X111 l111 y111 z111 st111 hQ111
    subst l111 y111 z111
    obtain ⟨rfl, Nq111, K111, Ex111, Fc111, t111, kb111, -, lo111, -, Fv111, Av111⟩ := hQ111
    have N111 := Fr.app N96 Nq111
    have g112 : n0 ≤ t111 := Nat.le_trans (own_osz F110) lo111
    have F114 := (Nat.le_trans F104 E100.1)
    have z113 : h0.size ≤ t111 := Nat.le_trans F114 lo111
    have ch115 := CHr.keep K111 (allS sf107 all0) CH106.1
    have CH116 := CHr.trans CH106 ch115
    refine ot T111 (mkF m 152 #[vI pi0, vI pi1, vI pi2, vI pi3, vI pi4, vI (2 : Int32), vI (own_ch pi0), vI (own_ch pi1), vI (own_ch pi2), vI (own_ch pi3), vR b87, vU, vU, vU] [(.ref b100)]) st111 ?_
    refine og T111 (mkF m 166 #[vI pi0, vI pi1, vI pi2, vI pi3, vI pi4, vI (2 : Int32), vI (own_ch pi0), vI (own_ch pi1), vI (own_ch pi2), vI (own_ch pi3), vR b87, vR b100, vI (0 : Int32), vU] [(.int (46 : Int32)), (.int (own_ch pi0))]) (fun _ k => XS.astore X111.here hx rfl (hb hby at_152) rfl rfl (l' := #[vI pi0, vI pi1, vI pi2, vI pi3, vI pi4, vI (2 : Int32), vI (own_ch pi0), vI (own_ch pi1), vI (own_ch pi2), vI (own_ch pi3), vR b87, vR b100, vU, vU]) rfl (XS.iconst X111.here hx rfl (hb hby at_154) (XS.istore X111.here hx rfl (hb hby at_155) rfl (l' := #[vI pi0, vI pi1, vI pi2, vI pi3, vI pi4, vI (2 : Int32), vI (own_ch pi0), vI (own_ch pi1), vI (own_ch pi2), vI (own_ch pi3), vR b87, vR b100, vI (0 : Int32), vU]) rfl (XS.iload X111.here hx rfl (hb hby at_157) rfl (XS.ifNo X111.here hx rfl (hb hby at_159) rfl ((if0 _ _).trans (tlt (by decide : (0 : Int32) < (2 : Int32))).2.2.2) (XS.iload X111.here hx rfl (hb hby at_162) rfl (XS.bipush X111.here hx rfl (hb hby at_164) k))))))) ?_
    have J117 : own_Fin p.tables e below (own_PW s Z own_EL (Qlaw Z pi0 pi1 pi2 pi3 pi4 G1 G3 h0 n0) room_1.cells room_1.slots) T111 (mkF m 172 #[vI pi0, vI pi1, vI pi2, vI pi3, vI pi4, vI (2 : Int32), vI (own_ch pi0), vI (own_ch pi1), vI (own_ch pi2), vI (own_ch pi3), vR b87, vR b100, vI (own_k (1 : Int32) (own_ch pi0) (0 : Int32)), vU] []) → own_Fin p.tables e below (own_PW s Z own_EL (Qlaw Z pi0 pi1 pi2 pi3 pi4 G1 G3 h0 n0) room_1.cells room_1.slots) T111 (mkF m 166 #[vI pi0, vI pi1, vI pi2, vI pi3, vI pi4, vI (2 : Int32), vI (own_ch pi0), vI (own_ch pi1), vI (own_ch pi2), vI (own_ch pi3), vR b87, vR b100, vI (0 : Int32), vU] [(.int (46 : Int32)), (.int (own_ch pi0))]) := by
      intro k0
      by_cases hc118 : (own_ch pi0) = (46 : Int32)
      · refine og T111 (mkF m 172 #[vI pi0, vI pi1, vI pi2, vI pi3, vI pi4, vI (2 : Int32), vI (own_ch pi0), vI (own_ch pi1), vI (own_ch pi2), vI (own_ch pi3), vR b87, vR b100, vI (1 : Int32), vU] []) (fun _ k => XS.icmpNo X111.here hx rfl (hb hby at_166) rfl (teq hc118).2 (XS.iconst X111.here hx rfl (hb hby at_169) (XS.istore X111.here hx rfl (hb hby at_170) rfl (l' := #[vI pi0, vI pi1, vI pi2, vI pi3, vI pi4, vI (2 : Int32), vI (own_ch pi0), vI (own_ch pi1), vI (own_ch pi2), vI (own_ch pi3), vR b87, vR b100, vI (1 : Int32), vU]) rfl k))) ?_
        rw [own_k1 hc118] at k0; exact k0
      · refine og T111 (mkF m 172 #[vI pi0, vI pi1, vI pi2, vI pi3, vI pi4, vI (2 : Int32), vI (own_ch pi0), vI (own_ch pi1), vI (own_ch pi2), vI (own_ch pi3), vR b87, vR b100, vI (0 : Int32), vU] []) (fun _ k => XS.icmpYes X111.here hx rfl (pc0 := 166) (pc' := 172) rfl (hb hby at_166) rfl (feq hc118).2 (by decide) (by decide) k) ?_
        rw [own_k0 hc118] at k0; exact k0
    refine J117 ?_
    refine og T111 (mkF m 182 #[vI pi0, vI pi1, vI pi2, vI pi3, vI pi4, vI (2 : Int32), vI (own_ch pi0), vI (own_ch pi1), vI (own_ch pi2), vI (own_ch pi3), vR b87, vR b100, vI (own_k (1 : Int32) (own_ch pi0) (0 : Int32)), vU] [(.int (46 : Int32)), (.int (own_ch pi1))]) (fun _ k => XS.iload X111.here hx rfl (hb hby at_172) rfl (XS.iconst X111.here hx rfl (hb hby at_174) (XS.icmpNo X111.here hx rfl (hb hby at_175) rfl (tlt (by decide : (1 : Int32) < (2 : Int32))).2.2.2 (XS.iload X111.here hx rfl (hb hby at_178) rfl (XS.bipush X111.here hx rfl (hb hby at_180) k))))) ?_
    have J119 : own_Fin p.tables e below (own_PW s Z own_EL (Qlaw Z pi0 pi1 pi2 pi3 pi4 G1 G3 h0 n0) room_1.cells room_1.slots) T111 (mkF m 188 #[vI pi0, vI pi1, vI pi2, vI pi3, vI pi4, vI (2 : Int32), vI (own_ch pi0), vI (own_ch pi1), vI (own_ch pi2), vI (own_ch pi3), vR b87, vR b100, vI (own_k (2 : Int32) (own_ch pi1) (own_k (1 : Int32) (own_ch pi0) (0 : Int32))), vU] []) → own_Fin p.tables e below (own_PW s Z own_EL (Qlaw Z pi0 pi1 pi2 pi3 pi4 G1 G3 h0 n0) room_1.cells room_1.slots) T111 (mkF m 182 #[vI pi0, vI pi1, vI pi2, vI pi3, vI pi4, vI (2 : Int32), vI (own_ch pi0), vI (own_ch pi1), vI (own_ch pi2), vI (own_ch pi3), vR b87, vR b100, vI (own_k (1 : Int32) (own_ch pi0) (0 : Int32)), vU] [(.int (46 : Int32)), (.int (own_ch pi1))]) := by
      intro k0
      by_cases hc120 : (own_ch pi1) = (46 : Int32)
      · refine og T111 (mkF m 188 #[vI pi0, vI pi1, vI pi2, vI pi3, vI pi4, vI (2 : Int32), vI (own_ch pi0), vI (own_ch pi1), vI (own_ch pi2), vI (own_ch pi3), vR b87, vR b100, vI (2 : Int32), vU] []) (fun _ k => XS.icmpNo X111.here hx rfl (hb hby at_182) rfl (teq hc120).2 (XS.iconst X111.here hx rfl (hb hby at_185) (XS.istore X111.here hx rfl (hb hby at_186) rfl (l' := #[vI pi0, vI pi1, vI pi2, vI pi3, vI pi4, vI (2 : Int32), vI (own_ch pi0), vI (own_ch pi1), vI (own_ch pi2), vI (own_ch pi3), vR b87, vR b100, vI (2 : Int32), vU]) rfl k))) ?_
        rw [own_k1 hc120] at k0; exact k0
      · refine og T111 (mkF m 188 #[vI pi0, vI pi1, vI pi2, vI pi3, vI pi4, vI (2 : Int32), vI (own_ch pi0), vI (own_ch pi1), vI (own_ch pi2), vI (own_ch pi3), vR b87, vR b100, vI (own_k (1 : Int32) (own_ch pi0) (0 : Int32)), vU] []) (fun _ k => XS.icmpYes X111.here hx rfl (pc0 := 182) (pc' := 188) rfl (hb hby at_182) rfl (feq hc120).2 (by decide) (by decide) k) ?_
        rw [own_k0 hc120] at k0; exact k0
    refine J119 ?_
    refine og T111 (mkF m 222 #[vI pi0, vI pi1, vI pi2, vI pi3, vI pi4, vI (2 : Int32), vI (own_ch pi0), vI (own_ch pi1), vI (own_ch pi2), vI (own_ch pi3), vR b87, vR b100, vI (own_k (2 : Int32) (own_ch pi1) (own_k (1 : Int32) (own_ch pi0) (0 : Int32))), vU] [(.ref b100)]) (fun _ k => XS.iload X111.here hx rfl (hb hby at_188) rfl (XS.iconst X111.here hx rfl (hb hby at_190) (XS.icmpYes X111.here hx rfl (pc0 := 191) (pc' := 204) rfl (hb hby at_191) rfl (flt (by decide : ¬ ((2 : Int32) < (2 : Int32)))).2.2.2 (by decide) (by decide) (XS.iload X111.here hx rfl (hb hby at_204) rfl (XS.iconst X111.here hx rfl (hb hby at_206) (XS.icmpYes X111.here hx rfl (pc0 := 207) (pc' := 220) rfl (hb hby at_207) rfl (flt (by decide : ¬ ((3 : Int32) < (2 : Int32)))).2.2.2 (by decide) (by decide) (XS.aload X111.here hx rfl (hb hby at_220) rfl rfl k))))))) ?_
    have F121 := (F110.keep K111 (allS g101 all0))
    obtain ⟨_, _, ⟨T122, L122, k122, n122⟩, -, X122, hs122, hg122, ⟨Lc122, hQ122, l122, y122, z122, ch122⟩, st122⟩ := callSS X111 hx (y := y13) hown (mvT hZ (own_w hw 27)) (mvT hZ (own_w hw 28)) (mvT hZ (own_w hw 29)) (mvT hZ (own_w hw 30)) (by decide) (own_backSH (W := 0) (rm5_57 l Z a0 hw b100 t111 kb111 ((own_ch pi0)) ((own_ch pi1)) G1 G3 T111.heap n0 F121 Ex111 Fc111 Fv111 (own_chl _) (own_chl _) Av111 O2 P5 O4 rG3) hZ (own_w hw 30) (own_w hw 29) (lb rfl) (lb rfl) (own_EW hw) CH116.1 all0) (g := (mkF m 222 #[vI pi0, vI pi1, vI pi2, vI pi3, vI pi4, vI (2 : Int32), vI (own_ch pi0), vI (own_ch pi1), vI (own_ch pi2), vI (own_ch pi3), vR b87, vR b100, vI (own_k (2 : Int32) (own_ch pi1) (own_k (1 : Int32) (own_ch pi0) (0 : Int32))), vU] [(.ref b100)])) rfl (by rw [hml]; rfl) (argsL := [(.ref b100)]) (rest := []) (lenOf pd_12 rfl) rfl (lb rfl) (hb hby at_222) (fun _ _ => ⟨rfl, rfl, (lb rfl), (lb rfl)⟩)
    dsimp only [Pt.U, Pt.locs, Pt.cells, Pt.slots] at X122 l122 y122 z122 st122 hQ122 hs122 hg122 ch122
    subst l122 y122 z122
    replace X122 := own_reb X122
    have F123 := (Nat.le_trans (Nat.le_trans (Nat.le_trans (Nat.le_trans hk0 E87.1) (Nat.le_of_eq W92.size.symm)) (Nat.le_of_eq W96.size.symm)) E100.1)
    have F124 := (Nat.le_trans F123 K111.1)
    obtain ⟨hZ122, hS122, hown122⟩ := own_after hZ hS0 rfl F124 hs122 hg122 hown
    rcases hQ122 with hQ122 | hQ122 | hQ122
    · obtain ⟨hc125, rfl, Nq122, eq122⟩ := hQ122
      have N122 := Fr.app N111 Nq122
      rw [eq122] at ch122 hS122
      have CH126 := CHr.trans CH116 ch122
      refine ot T122 (mkF m 225 #[vI pi0, vI pi1, vI pi2, vI pi3, vI pi4, vI (2 : Int32), vI (own_ch pi0), vI (own_ch pi1), vI (own_ch pi2), vI (own_ch pi3), vR b87, vR b100, vI (own_k (2 : Int32) (own_ch pi1) (own_k (1 : Int32) (own_ch pi0) (0 : Int32))), vU] [(.ref b100)]) st122 ?_
      refine og T122 (mkF m 227 #[vI pi0, vI pi1, vI pi2, vI pi3, vI pi4, vI (2 : Int32), vI (own_ch pi0), vI (own_ch pi1), vI (own_ch pi2), vI (own_ch pi3), vR b87, vR b100, vI (own_k (2 : Int32) (own_ch pi1) (own_k (1 : Int32) (own_ch pi0) (0 : Int32))), vR b100] []) (fun _ k => XS.astore X122.here hx rfl (hb hby at_225) rfl rfl (l' := #[vI pi0, vI pi1, vI pi2, vI pi3, vI pi4, vI (2 : Int32), vI (own_ch pi0), vI (own_ch pi1), vI (own_ch pi2), vI (own_ch pi3), vR b87, vR b100, vI (own_k (2 : Int32) (own_ch pi1) (own_k (1 : Int32) (own_ch pi0) (0 : Int32))), vR b100]) rfl k) ?_
      have hd127 := own_c46 (own_chl _) hc125
      have hk128 : (own_k (2 : Int32) (own_ch pi1) (own_k (1 : Int32) (own_ch pi0) (0 : Int32))) = (2 : Int32) := by simp only [own_k, hd127, if_true, if_false, if_pos, if_neg, not_false_eq_true, reduceIte]
      rw [hk128]
      refine og T122 (mkF m 229 #[vI pi0, vI pi1, vI pi2, vI pi3, vI pi4, vI (2 : Int32), vI (own_ch pi0), vI (own_ch pi1), vI (own_ch pi2), vI (own_ch pi3), vR b87, vR b100, vI (2 : Int32), vR b100] [(.ref b100)]) (fun _ k => XS.aload X122.here hx rfl (hb hby at_227) rfl rfl k) ?_
      obtain ⟨cq129, kq129, q129a, q129b, q129c⟩ := isOf hZ122 eq122 Ex111
      obtain ⟨_, _, ⟨T129, L129, k129, n129⟩, -, X129, ⟨Lc129, hQ129, l129, y129, z129⟩, st129⟩ := X122.virtualBack hx (y := y3) (z := y3) hown122 (mvT hZ122 (own_w hw 81)) (mvT hZ122 (own_w hw 37)) (notFace_of_selects (args := #[]) (mvT hZ122 (own_w hw 39))) (mvT hZ122 (own_w hw 39)) (mvT hZ122 (own_w hw 38)) (by decide) (StrChars.Road.lenW (W := 0) hZ122 (own_hln hw) (kI := 4) (own_w hw 7) (cs := ([(own_ch pi0), (own_ch pi1)] : List Int32)) Ex111 Fv111 Fc111 Av111 (StrChars.Road.codOf rfl (fun c hc => (hp109 c hc).2)) (own_up _ hp109) (O2.ext F121.2) P5 (lb rfl) (lb rfl) (lb rfl)) q129a q129c (g := (mkF m 229 #[vI pi0, vI pi1, vI pi2, vI pi3, vI pi4, vI (2 : Int32), vI (own_ch pi0), vI (own_ch pi1), vI (own_ch pi2), vI (own_ch pi3), vR b87, vR b100, vI (2 : Int32), vR b100] [(.ref b100)])) rfl (by rw [hml]; rfl) (Steps.refl _) (argsL := []) (rest := []) (lenOf pd_3 rfl) rfl (lb rfl) (hb hby at_229) (fun _ _ => ⟨rfl, eq122, (lb rfl), (lb rfl)⟩)
      dsimp only [Pt.U, Pt.locs, Pt.cells, Pt.slots] at X129 l129 y129 z129 st129 hQ129
      subst l129 y129 z129
      obtain ⟨rfl, rfl, eq129⟩ := hQ129
      have N129 := Fr.app N122 (Fr.nil n0)
      refine ot T129 (mkF m 232 #[vI pi0, vI pi1, vI pi2, vI pi3, vI pi4, vI (2 : Int32), vI (own_ch pi0), vI (own_ch pi1), vI (own_ch pi2), vI (own_ch pi3), vR b87, vR b100, vI (2 : Int32), vR b100] [(.int (2 : Int32))]) st129 ?_
      refine og T129 (mkF m 247 #[vI pi0, vI pi1, vI pi2, vI pi3, vI pi4, vI (2 : Int32), vI (own_ch pi0), vI (own_ch pi1), vI (own_ch pi2), vI (own_ch pi3), vR b87, vR b100, vI (2 : Int32), vR b100] [(.int (0 : Int32)), (.ref b100)]) (fun _ k => XS.iload X129.here hx rfl (hb hby at_232) rfl (XS.icmpYes X129.here hx rfl (pc0 := 234) (pc' := 239) rfl (hb hby at_234) rfl (teq (by decide : (2 : Int32) = (2 : Int32))).1 (by decide) (by decide) (XS.iload X129.here hx rfl (hb hby at_239) rfl (XS.ifNo X129.here hx rfl (hb hby at_241) rfl ((if0 _ _).trans (tlt (by decide : (0 : Int32) < (2 : Int32))).2.2.2) (XS.aload X129.here hx rfl (hb hby at_244) rfl rfl (XS.iconst X129.here hx rfl (hb hby at_246) k)))))) ?_
      obtain ⟨cq130, kq130, q130a, q130b, q130c⟩ := isOf hZ122 eq129 Ex111
      obtain ⟨_, _, ⟨T130, L130, k130, n130⟩, -, X130, ⟨Lc130, hQ130, l130, y130, z130⟩, st130⟩ := X129.virtualBack hx (y := y15) (z := y15) hown122 (mvT hZ122 (own_w hw 114)) (mvT hZ122 (own_w hw 115)) (notFace_of_selects (args := #[]) (mvT hZ122 (own_w hw 117))) (mvT hZ122 (own_w hw 117)) (mvT hZ122 (own_w hw 116)) (by decide) (StrChars.Road.chN (W := 0) hZ122 (own_hch hw) (kI := 4) (own_w hw 7) (cs := ([(own_ch pi0), (own_ch pi1)] : List Int32)) (i := 0) Ex111 Fv111 Fc111 Av111 (StrChars.Road.codOf rfl (fun c hc => (hp109 c hc).2)) (own_up _ hp109) (O2.ext F121.2) P5 (O4.ext F121.2) rG3 (lb rfl) (lb rfl) rfl (lb rfl) (lb rfl)) q130a q130c (g := (mkF m 247 #[vI pi0, vI pi1, vI pi2, vI pi3, vI pi4, vI (2 : Int32), vI (own_ch pi0), vI (own_ch pi1), vI (own_ch pi2), vI (own_ch pi3), vR b87, vR b100, vI (2 : Int32), vR b100] [(.int (0 : Int32)), (.ref b100)])) rfl (by rw [hml]; rfl) (Steps.refl _) (argsL := [(.int (0 : Int32))]) (rest := []) (lenOf pd_0 rfl) rfl (lb rfl) (hb hby at_247) (fun _ _ => ⟨rfl, eq129, (lb rfl), (lb rfl)⟩)
      dsimp only [Pt.U, Pt.locs, Pt.cells, Pt.slots] at X130 l130 y130 z130 st130 hQ130
      subst l130 y130 z130
      obtain ⟨rfl, rfl, eq130⟩ := hQ130
      have N130 := Fr.app N129 (Fr.nil n0)
      refine ot T130 (mkF m 250 #[vI pi0, vI pi1, vI pi2, vI pi3, vI pi4, vI (2 : Int32), vI (own_ch pi0), vI (own_ch pi1), vI (own_ch pi2), vI (own_ch pi3), vR b87, vR b100, vI (2 : Int32), vR b100] [(.int (own_ch pi0))]) st130 ?_
      refine og T130 (mkF m 266 #[vI pi0, vI pi1, vI pi2, vI pi3, vI pi4, vI (2 : Int32), vI (own_ch pi0), vI (own_ch pi1), vI (own_ch pi2), vI (own_ch pi3), vR b87, vR b100, vI (2 : Int32), vR b100] [(.int (1 : Int32)), (.ref b100)]) (fun _ k => XS.iload X130.here hx rfl (hb hby at_250) rfl (XS.icmpYes X130.here hx rfl (pc0 := 252) (pc' := 257) rfl (hb hby at_252) rfl (teq (rfl : (own_ch pi0) = (own_ch pi0))).1 (by decide) (by decide) (XS.iload X130.here hx rfl (hb hby at_257) rfl (XS.iconst X130.here hx rfl (hb hby at_259) (XS.icmpNo X130.here hx rfl (hb hby at_260) rfl (tlt (by decide : (1 : Int32) < (2 : Int32))).2.2.2 (XS.aload X130.here hx rfl (hb hby at_263) rfl rfl (XS.iconst X130.here hx rfl (hb hby at_265) k))))))) ?_
      obtain ⟨cq131, kq131, q131a, q131b, q131c⟩ := isOf hZ122 eq130 Ex111
      obtain ⟨_, _, ⟨T131, L131, k131, n131⟩, -, X131, ⟨Lc131, hQ131, l131, y131, z131⟩, st131⟩ := X130.virtualBack hx (y := y15) (z := y15) hown122 (mvT hZ122 (own_w hw 114)) (mvT hZ122 (own_w hw 115)) (notFace_of_selects (args := #[]) (mvT hZ122 (own_w hw 117))) (mvT hZ122 (own_w hw 117)) (mvT hZ122 (own_w hw 116)) (by decide) (StrChars.Road.chN (W := 0) hZ122 (own_hch hw) (kI := 4) (own_w hw 7) (cs := ([(own_ch pi0), (own_ch pi1)] : List Int32)) (i := 1) Ex111 Fv111 Fc111 Av111 (StrChars.Road.codOf rfl (fun c hc => (hp109 c hc).2)) (own_up _ hp109) (O2.ext F121.2) P5 (O4.ext F121.2) rG3 (lb rfl) (lb rfl) rfl (lb rfl) (lb rfl)) q131a q131c (g := (mkF m 266 #[vI pi0, vI pi1, vI pi2, vI pi3, vI pi4, vI (2 : Int32), vI (own_ch pi0), vI (own_ch pi1), vI (own_ch pi2), vI (own_ch pi3), vR b87, vR b100, vI (2 : Int32), vR b100] [(.int (1 : Int32)), (.ref b100)])) rfl (by rw [hml]; rfl) (Steps.refl _) (argsL := [(.int (1 : Int32))]) (rest := []) (lenOf pd_0 rfl) rfl (lb rfl) (hb hby at_266) (fun _ _ => ⟨rfl, eq130, (lb rfl), (lb rfl)⟩)
      dsimp only [Pt.U, Pt.locs, Pt.cells, Pt.slots] at X131 l131 y131 z131 st131 hQ131
      subst l131 y131 z131
      obtain ⟨rfl, rfl, eq131⟩ := hQ131
      have N131 := Fr.app N130 (Fr.nil n0)
      refine ot T131 (mkF m 269 #[vI pi0, vI pi1, vI pi2, vI pi3, vI pi4, vI (2 : Int32), vI (own_ch pi0), vI (own_ch pi1), vI (own_ch pi2), vI (own_ch pi3), vR b87, vR b100, vI (2 : Int32), vR b100] [(.int (own_ch pi1))]) st131 ?_
      refine og T131 (mkF m 315 #[vI pi0, vI pi1, vI pi2, vI pi3, vI pi4, vI (2 : Int32), vI (own_ch pi0), vI (own_ch pi1), vI (own_ch pi2), vI (own_ch pi3), vR b87, vR b100, vI (2 : Int32), vR b100] [(.int (1 : Int32))]) (fun _ k => XS.iload X131.here hx rfl (hb hby at_269) rfl (XS.icmpYes X131.here hx rfl (pc0 := 271) (pc' := 276) rfl (hb hby at_271) rfl (teq (rfl : (own_ch pi1) = (own_ch pi1))).1 (by decide) (by decide) (XS.iload X131.here hx rfl (hb hby at_276) rfl (XS.iconst X131.here hx rfl (hb hby at_278) (XS.icmpYes X131.here hx rfl (pc0 := 279) (pc' := 295) rfl (hb hby at_279) rfl (flt (by decide : ¬ ((2 : Int32) < (2 : Int32)))).2.2.2 (by decide) (by decide) (XS.iload X131.here hx rfl (hb hby at_295) rfl (XS.iconst X131.here hx rfl (hb hby at_297) (XS.icmpYes X131.here hx rfl (pc0 := 298) (pc' := 314) rfl (hb hby at_298) rfl (flt (by decide : ¬ ((3 : Int32) < (2 : Int32)))).2.2.2 (by decide) (by decide) (XS.iconst X131.here hx rfl (hb hby at_314) k))))))))) ?_
      exact own_leaveW (s := s) (vm0 := T122.vm) X131 hS122 (Nat.le_refl _) hZ122 (own_EW hw) eq131 CH126 hh hlk (v := some (.int (nar .boolean (1 : Int32)))) (fun h => by rw [hret] at h; cases h) (lb rfl) (lb rfl) (by rw [eq131]; exact ⟨rfl, N131⟩) (fun fs hr => retN X131 hx (t := .boolean) hret (by simp) (hb hby at_315) hr)
    · obtain ⟨o132, o133, kc134, hc135, hc136, rfl, Nq122, K122, f137, f138, f139, f140, f141, f142⟩ := hQ122
      have N122 := Fr.app N111 Nq122
      have g143 : n0 ≤ o132 := Nat.le_trans (own_osz F121) f137
      have F145 := (Nat.le_trans F114 K111.1)
      have z144 : h0.size ≤ o132 := Nat.le_trans F145 f137
      have g146 : n0 ≤ o133 := Nat.le_trans (own_osz F121) f138
      have z147 : h0.size ≤ o133 := Nat.le_trans F145 f138
      have CH148 := CHr.trans CH116 ch122
      refine ot T122 (mkF m 225 #[vI pi0, vI pi1, vI pi2, vI pi3, vI pi4, vI (2 : Int32), vI (own_ch pi0), vI (own_ch pi1), vI (own_ch pi2), vI (own_ch pi3), vR b87, vR b100, vI (own_k (2 : Int32) (own_ch pi1) (own_k (1 : Int32) (own_ch pi0) (0 : Int32))), vU] [(.ref o132)]) st122 ?_
      refine og T122 (mkF m 227 #[vI pi0, vI pi1, vI pi2, vI pi3, vI pi4, vI (2 : Int32), vI (own_ch pi0), vI (own_ch pi1), vI (own_ch pi2), vI (own_ch pi3), vR b87, vR b100, vI (own_k (2 : Int32) (own_ch pi1) (own_k (1 : Int32) (own_ch pi0) (0 : Int32))), vR o132] []) (fun _ k => XS.astore X122.here hx rfl (hb hby at_225) rfl rfl (l' := #[vI pi0, vI pi1, vI pi2, vI pi3, vI pi4, vI (2 : Int32), vI (own_ch pi0), vI (own_ch pi1), vI (own_ch pi2), vI (own_ch pi3), vR b87, vR b100, vI (own_k (2 : Int32) (own_ch pi1) (own_k (1 : Int32) (own_ch pi0) (0 : Int32))), vR o132]) rfl k) ?_
      have hd149 := own_c46 (own_chl _) hc136
      have hd150 := own_c46n (own_chl _) hc135
      have hk151 : (own_k (2 : Int32) (own_ch pi1) (own_k (1 : Int32) (own_ch pi0) (0 : Int32))) = (1 : Int32) := by simp only [own_k, hd149, hd150, if_true, if_false, if_pos, if_neg, not_false_eq_true, reduceIte]
      rw [hk151]
      refine og T122 (mkF m 229 #[vI pi0, vI pi1, vI pi2, vI pi3, vI pi4, vI (2 : Int32), vI (own_ch pi0), vI (own_ch pi1), vI (own_ch pi2), vI (own_ch pi3), vR b87, vR b100, vI (1 : Int32), vR o132] [(.ref o132)]) (fun _ k => XS.aload X122.here hx rfl (hb hby at_227) rfl rfl k) ?_
      have hp152 : ∀ c ∈ ([(own_ch pi0)] : List Int32), ¬ c < 0 ∧ ¬ (255 : Int32) < c := by
        intro c hc
        simp only [List.mem_cons, List.not_mem_nil, or_false] at hc
        rcases hc with rfl
        · exact (own_chl _)
      have F153 := (F121.keep K122 all0)
      obtain ⟨cq154, kq154, q154a, q154b, q154c⟩ := isOf hZ122 rfl f139
      obtain ⟨_, _, ⟨T154, L154, k154, n154⟩, -, X154, ⟨Lc154, hQ154, l154, y154, z154⟩, st154⟩ := X122.virtualBack hx (y := y3) (z := y3) hown122 (mvT hZ122 (own_w hw 81)) (mvT hZ122 (own_w hw 37)) (notFace_of_selects (args := #[]) (mvT hZ122 (own_w hw 39))) (mvT hZ122 (own_w hw 39)) (mvT hZ122 (own_w hw 38)) (by decide) (StrChars.Road.lenW (W := 0) hZ122 (own_hln hw) (kI := 4) (own_w hw 7) (cs := ([(own_ch pi0)] : List Int32)) f139 f141 f140 f142 (StrChars.Road.codOf rfl (fun c hc => (hp152 c hc).2)) (own_up _ hp152) (O2.ext F153.2) P5 (lb rfl) (lb rfl) (lb rfl)) q154a q154c (g := (mkF m 229 #[vI pi0, vI pi1, vI pi2, vI pi3, vI pi4, vI (2 : Int32), vI (own_ch pi0), vI (own_ch pi1), vI (own_ch pi2), vI (own_ch pi3), vR b87, vR b100, vI (1 : Int32), vR o132] [(.ref o132)])) rfl (by rw [hml]; rfl) (Steps.refl _) (argsL := []) (rest := []) (lenOf pd_3 rfl) rfl (lb rfl) (hb hby at_229) (fun _ _ => ⟨rfl, rfl, (lb rfl), (lb rfl)⟩)
      dsimp only [Pt.U, Pt.locs, Pt.cells, Pt.slots] at X154 l154 y154 z154 st154 hQ154
      subst l154 y154 z154
      obtain ⟨rfl, rfl, eq154⟩ := hQ154
      have N154 := Fr.app N122 (Fr.nil n0)
      refine ot T154 (mkF m 232 #[vI pi0, vI pi1, vI pi2, vI pi3, vI pi4, vI (2 : Int32), vI (own_ch pi0), vI (own_ch pi1), vI (own_ch pi2), vI (own_ch pi3), vR b87, vR b100, vI (1 : Int32), vR o132] [(.int (1 : Int32))]) st154 ?_
      refine og T154 (mkF m 247 #[vI pi0, vI pi1, vI pi2, vI pi3, vI pi4, vI (2 : Int32), vI (own_ch pi0), vI (own_ch pi1), vI (own_ch pi2), vI (own_ch pi3), vR b87, vR b100, vI (1 : Int32), vR o132] [(.int (0 : Int32)), (.ref o132)]) (fun _ k => XS.iload X154.here hx rfl (hb hby at_232) rfl (XS.icmpYes X154.here hx rfl (pc0 := 234) (pc' := 239) rfl (hb hby at_234) rfl (teq (by decide : (1 : Int32) = (1 : Int32))).1 (by decide) (by decide) (XS.iload X154.here hx rfl (hb hby at_239) rfl (XS.ifNo X154.here hx rfl (hb hby at_241) rfl ((if0 _ _).trans (tlt (by decide : (0 : Int32) < (1 : Int32))).2.2.2) (XS.aload X154.here hx rfl (hb hby at_244) rfl rfl (XS.iconst X154.here hx rfl (hb hby at_246) k)))))) ?_
      obtain ⟨cq155, kq155, q155a, q155b, q155c⟩ := isOf hZ122 eq154 f139
      obtain ⟨_, _, ⟨T155, L155, k155, n155⟩, -, X155, ⟨Lc155, hQ155, l155, y155, z155⟩, st155⟩ := X154.virtualBack hx (y := y15) (z := y15) hown122 (mvT hZ122 (own_w hw 114)) (mvT hZ122 (own_w hw 115)) (notFace_of_selects (args := #[]) (mvT hZ122 (own_w hw 117))) (mvT hZ122 (own_w hw 117)) (mvT hZ122 (own_w hw 116)) (by decide) (StrChars.Road.chN (W := 0) hZ122 (own_hch hw) (kI := 4) (own_w hw 7) (cs := ([(own_ch pi0)] : List Int32)) (i := 0) f139 f141 f140 f142 (StrChars.Road.codOf rfl (fun c hc => (hp152 c hc).2)) (own_up _ hp152) (O2.ext F153.2) P5 (O4.ext F153.2) rG3 (lb rfl) (lb rfl) rfl (lb rfl) (lb rfl)) q155a q155c (g := (mkF m 247 #[vI pi0, vI pi1, vI pi2, vI pi3, vI pi4, vI (2 : Int32), vI (own_ch pi0), vI (own_ch pi1), vI (own_ch pi2), vI (own_ch pi3), vR b87, vR b100, vI (1 : Int32), vR o132] [(.int (0 : Int32)), (.ref o132)])) rfl (by rw [hml]; rfl) (Steps.refl _) (argsL := [(.int (0 : Int32))]) (rest := []) (lenOf pd_0 rfl) rfl (lb rfl) (hb hby at_247) (fun _ _ => ⟨rfl, eq154, (lb rfl), (lb rfl)⟩)
      dsimp only [Pt.U, Pt.locs, Pt.cells, Pt.slots] at X155 l155 y155 z155 st155 hQ155
      subst l155 y155 z155
      obtain ⟨rfl, rfl, eq155⟩ := hQ155
      have N155 := Fr.app N154 (Fr.nil n0)
      refine ot T155 (mkF m 250 #[vI pi0, vI pi1, vI pi2, vI pi3, vI pi4, vI (2 : Int32), vI (own_ch pi0), vI (own_ch pi1), vI (own_ch pi2), vI (own_ch pi3), vR b87, vR b100, vI (1 : Int32), vR o132] [(.int (own_ch pi0))]) st155 ?_
      refine og T155 (mkF m 298 #[vI pi0, vI pi1, vI pi2, vI pi3, vI pi4, vI (2 : Int32), vI (own_ch pi0), vI (own_ch pi1), vI (own_ch pi2), vI (own_ch pi3), vR b87, vR b100, vI (1 : Int32), vR o132] [(.int (3 : Int32)), (.int (1 : Int32))]) (fun _ k => XS.iload X155.here hx rfl (hb hby at_250) rfl (XS.icmpYes X155.here hx rfl (pc0 := 252) (pc' := 257) rfl (hb hby at_252) rfl (teq (rfl : (own_ch pi0) = (own_ch pi0))).1 (by decide) (by decide) (XS.iload X155.here hx rfl (hb hby at_257) rfl (XS.iconst X155.here hx rfl (hb hby at_259) (XS.icmpYes X155.here hx rfl (pc0 := 260) (pc' := 276) rfl (hb hby at_260) rfl (flt (by decide : ¬ ((1 : Int32) < (1 : Int32)))).2.2.2 (by decide) (by decide) (XS.iload X155.here hx rfl (hb hby at_276) rfl (XS.iconst X155.here hx rfl (hb hby at_278) (XS.icmpYes X155.here hx rfl (pc0 := 279) (pc' := 295) rfl (hb hby at_279) rfl (flt (by decide : ¬ ((2 : Int32) < (1 : Int32)))).2.2.2 (by decide) (by decide) (XS.iload X155.here hx rfl (hb hby at_295) rfl (XS.iconst X155.here hx rfl (hb hby at_297) k)))))))))) ?_
      refine og T155 (mkF m 315 #[vI pi0, vI pi1, vI pi2, vI pi3, vI pi4, vI (2 : Int32), vI (own_ch pi0), vI (own_ch pi1), vI (own_ch pi2), vI (own_ch pi3), vR b87, vR b100, vI (1 : Int32), vR o132] [(.int (1 : Int32))]) (fun _ k => XS.icmpYes X155.here hx rfl (pc0 := 298) (pc' := 314) rfl (hb hby at_298) rfl (flt (by decide : ¬ ((3 : Int32) < (1 : Int32)))).2.2.2 (by decide) (by decide) (XS.iconst X155.here hx rfl (hb hby at_314) k)) ?_
      exact own_leaveW (s := s) (vm0 := T122.vm) X155 hS122 (Nat.le_refl _) hZ122 (own_EW hw) eq155 CH148 hh hlk (v := some (.int (nar .boolean (1 : Int32)))) (fun h => by rw [hret] at h; cases h) (lb rfl) (lb rfl) (by rw [eq155]; exact ⟨rfl, N155⟩) (fun fs hr => retN X155 hx (t := .boolean) hret (by simp) (hb hby at_315) hr)
    · obtain ⟨o156, o157, kc158, hc159, hc160, rfl, Nq122, K122, f161, f162, f163, f164, f165, f166⟩ := hQ122
      have N122 := Fr.app N111 Nq122
      have CH167 := CHr.trans CH116 ch122
      refine ot T122 (mkF m 225 #[vI pi0, vI pi1, vI pi2, vI pi3, vI pi4, vI (2 : Int32), vI (own_ch pi0), vI (own_ch pi1), vI (own_ch pi2), vI (own_ch pi3), vR b87, vR b100, vI (own_k (2 : Int32) (own_ch pi1) (own_k (1 : Int32) (own_ch pi0) (0 : Int32))), vU] [(.ref o156)]) st122 ?_
      refine og T122 (mkF m 227 #[vI pi0, vI pi1, vI pi2, vI pi3, vI pi4, vI (2 : Int32), vI (own_ch pi0), vI (own_ch pi1), vI (own_ch pi2), vI (own_ch pi3), vR b87, vR b100, vI (own_k (2 : Int32) (own_ch pi1) (own_k (1 : Int32) (own_ch pi0) (0 : Int32))), vR o156] []) (fun _ k => XS.astore X122.here hx rfl (hb hby at_225) rfl rfl (l' := #[vI pi0, vI pi1, vI pi2, vI pi3, vI pi4, vI (2 : Int32), vI (own_ch pi0), vI (own_ch pi1), vI (own_ch pi2), vI (own_ch pi3), vR b87, vR b100, vI (own_k (2 : Int32) (own_ch pi1) (own_k (1 : Int32) (own_ch pi0) (0 : Int32))), vR o156]) rfl k) ?_
      have hd168 := own_c46n (own_chl _) hc160
      have hd169 := own_c46n (own_chl _) hc159
      have hk170 : (own_k (2 : Int32) (own_ch pi1) (own_k (1 : Int32) (own_ch pi0) (0 : Int32))) = (0 : Int32) := by simp only [own_k, hd168, hd169, if_true, if_false, if_pos, if_neg, not_false_eq_true, reduceIte]
      rw [hk170]
      refine og T122 (mkF m 229 #[vI pi0, vI pi1, vI pi2, vI pi3, vI pi4, vI (2 : Int32), vI (own_ch pi0), vI (own_ch pi1), vI (own_ch pi2), vI (own_ch pi3), vR b87, vR b100, vI (0 : Int32), vR o156] [(.ref o156)]) (fun _ k => XS.aload X122.here hx rfl (hb hby at_227) rfl rfl k) ?_
      have hp171 : ∀ c ∈ ([] : List Int32), ¬ c < 0 ∧ ¬ (255 : Int32) < c := by
        intro c hc
        cases hc
      have F172 := (F121.keep K122 all0)
      obtain ⟨cq173, kq173, q173a, q173b, q173c⟩ := isOf hZ122 rfl f163
      obtain ⟨_, _, ⟨T173, L173, k173, n173⟩, -, X173, ⟨Lc173, hQ173, l173, y173, z173⟩, st173⟩ := X122.virtualBack hx (y := y3) (z := y3) hown122 (mvT hZ122 (own_w hw 81)) (mvT hZ122 (own_w hw 37)) (notFace_of_selects (args := #[]) (mvT hZ122 (own_w hw 39))) (mvT hZ122 (own_w hw 39)) (mvT hZ122 (own_w hw 38)) (by decide) (StrChars.Road.lenW (W := 0) hZ122 (own_hln hw) (kI := 4) (own_w hw 7) (cs := ([] : List Int32)) f163 f165 f164 f166 (StrChars.Road.codOf rfl (fun c hc => (hp171 c hc).2)) (own_up _ hp171) (O2.ext F172.2) P5 (lb rfl) (lb rfl) (lb rfl)) q173a q173c (g := (mkF m 229 #[vI pi0, vI pi1, vI pi2, vI pi3, vI pi4, vI (2 : Int32), vI (own_ch pi0), vI (own_ch pi1), vI (own_ch pi2), vI (own_ch pi3), vR b87, vR b100, vI (0 : Int32), vR o156] [(.ref o156)])) rfl (by rw [hml]; rfl) (Steps.refl _) (argsL := []) (rest := []) (lenOf pd_3 rfl) rfl (lb rfl) (hb hby at_229) (fun _ _ => ⟨rfl, rfl, (lb rfl), (lb rfl)⟩)
      dsimp only [Pt.U, Pt.locs, Pt.cells, Pt.slots] at X173 l173 y173 z173 st173 hQ173
      subst l173 y173 z173
      obtain ⟨rfl, rfl, eq173⟩ := hQ173
      have N173 := Fr.app N122 (Fr.nil n0)
      refine ot T173 (mkF m 232 #[vI pi0, vI pi1, vI pi2, vI pi3, vI pi4, vI (2 : Int32), vI (own_ch pi0), vI (own_ch pi1), vI (own_ch pi2), vI (own_ch pi3), vR b87, vR b100, vI (0 : Int32), vR o156] [(.int (0 : Int32))]) st173 ?_
      refine og T173 (mkF m 295 #[vI pi0, vI pi1, vI pi2, vI pi3, vI pi4, vI (2 : Int32), vI (own_ch pi0), vI (own_ch pi1), vI (own_ch pi2), vI (own_ch pi3), vR b87, vR b100, vI (0 : Int32), vR o156] []) (fun _ k => XS.iload X173.here hx rfl (hb hby at_232) rfl (XS.icmpYes X173.here hx rfl (pc0 := 234) (pc' := 239) rfl (hb hby at_234) rfl (teq (by decide : (0 : Int32) = (0 : Int32))).1 (by decide) (by decide) (XS.iload X173.here hx rfl (hb hby at_239) rfl (XS.ifYes X173.here hx rfl (pc0 := 241) (pc' := 257) rfl (hb hby at_241) rfl ((if0 _ _).trans (flt (by decide : ¬ ((0 : Int32) < (0 : Int32)))).2.2.2) (by decide) (by decide) (XS.iload X173.here hx rfl (hb hby at_257) rfl (XS.iconst X173.here hx rfl (hb hby at_259) (XS.icmpYes X173.here hx rfl (pc0 := 260) (pc' := 276) rfl (hb hby at_260) rfl (flt (by decide : ¬ ((1 : Int32) < (0 : Int32)))).2.2.2 (by decide) (by decide) (XS.iload X173.here hx rfl (hb hby at_276) rfl (XS.iconst X173.here hx rfl (hb hby at_278) (XS.icmpYes X173.here hx rfl (pc0 := 279) (pc' := 295) rfl (hb hby at_279) rfl (flt (by decide : ¬ ((2 : Int32) < (0 : Int32)))).2.2.2 (by decide) (by decide) k)))))))))) ?_
      refine og T173 (mkF m 315 #[vI pi0, vI pi1, vI pi2, vI pi3, vI pi4, vI (2 : Int32), vI (own_ch pi0), vI (own_ch pi1), vI (own_ch pi2), vI (own_ch pi3), vR b87, vR b100, vI (0 : Int32), vR o156] [(.int (1 : Int32))]) (fun _ k => XS.iload X173.here hx rfl (hb hby at_295) rfl (XS.iconst X173.here hx rfl (hb hby at_297) (XS.icmpYes X173.here hx rfl (pc0 := 298) (pc' := 314) rfl (hb hby at_298) rfl (flt (by decide : ¬ ((3 : Int32) < (0 : Int32)))).2.2.2 (by decide) (by decide) (XS.iconst X173.here hx rfl (hb hby at_314) k)))) ?_
      exact own_leaveW (s := s) (vm0 := T122.vm) X173 hS122 (Nat.le_refl _) hZ122 (own_EW hw) eq173 CH167 hh hlk (v := some (.int (nar .boolean (1 : Int32)))) (fun h => by rw [hret] at h; cases h) (lb rfl) (lb rfl) (by rw [eq173]; exact ⟨rfl, N173⟩) (fun fs hr => retN X173 hx (t := .boolean) hret (by simp) (hb hby at_315) hr)
  · rw [hm]
    refine og T4 (mkF m 92 #[vI pi0, vI pi1, vI pi2, vI pi3, vI pi4, vI (3 : Int32), vI (own_ch pi0), vI (own_ch pi1), vI (own_ch pi2), vI (own_ch pi3), vU, vU, vU, vU] [(.int (3 : Int32)), (.int (3 : Int32))]) (fun _ k => XS.iload X4.here hx rfl (hb hby at_33) rfl (XS.ifYes X4.here hx rfl (pc0 := 35) (pc' := 46) rfl (hb hby at_35) rfl ((if0 _ _).trans (feq (by decide : ¬ ((3 : Int32) = (0 : Int32)))).2) (by decide) (by decide) (XS.iload X4.here hx rfl (hb hby at_46) rfl (XS.iconst X4.here hx rfl (hb hby at_48) (XS.icmpYes X4.here hx rfl (pc0 := 49) (pc' := 65) rfl (hb hby at_49) rfl (feq (by decide : ¬ ((3 : Int32) = (1 : Int32)))).2 (by decide) (by decide) (XS.iload X4.here hx rfl (hb hby at_65) rfl (XS.iconst X4.here hx rfl (hb hby at_67) (XS.icmpYes X4.here hx rfl (pc0 := 68) (pc' := 89) rfl (hb hby at_68) rfl (feq (by decide : ¬ ((3 : Int32) = (2 : Int32)))).2 (by decide) (by decide) (XS.iload X4.here hx rfl (hb hby at_89) rfl (XS.iconst X4.here hx rfl (hb hby at_91) k)))))))))) ?_
    refine og T4 (mkF m 96 #[vI pi0, vI pi1, vI pi2, vI pi3, vI pi4, vI (3 : Int32), vI (own_ch pi0), vI (own_ch pi1), vI (own_ch pi2), vI (own_ch pi3), vU, vU, vU, vU] [(.int (3 : Int32))]) (fun _ k => XS.icmpNo X4.here hx rfl (hb hby at_92) rfl (teq (by decide : (3 : Int32) = (3 : Int32))).2 (XS.iconst X4.here hx rfl (hb hby at_95) k)) ?_
    obtain ⟨T174, h174, k174, X174, e174, E174, A174, st174⟩ := newP X4 hx hZ (own_w hw 5) eq4 (g := (mkF m 96 #[vI pi0, vI pi1, vI pi2, vI pi3, vI pi4, vI (3 : Int32), vI (own_ch pi0), vI (own_ch pi1), vI (own_ch pi2), vI (own_ch pi3), vU, vU, vU, vU] [(.int (3 : Int32))])) rfl (hb hby at_96) rfl (by decide) (cap := 3) (by decide) (lb rfl) (lb rfl) (lb rfl)
    obtain ⟨b174, gb174⟩ : ∃ z, z = h0.size := ⟨_, rfl⟩
    rw [← gb174] at A174 st174
    have g175 : n0 ≤ b174 := Nat.le_trans (own_osz OLD) (Nat.le_of_eq gb174.symm)
    have z176 : h0.size ≤ b174 := Nat.le_trans (Nat.le_refl _) (Nat.le_of_eq gb174.symm)
    have ch177 := CHr.ext E174 CH0.1
    have CH178 := CHr.trans CH0 ch177
    have V174 : Arv Z h174 b174 k174 .char (3 : Int32) [(.int (0 : Int32)), (.int (0 : Int32)), (.int (0 : Int32))] (.int (0 : Int32)) := (Arv.new A174 (by decide)).pad (pad_rep [] (.int (0 : Int32)) 3)
    refine og T174 (mkF m 98 #[vI pi0, vI pi1, vI pi2, vI pi3, vI pi4, vI (3 : Int32), vI (own_ch pi0), vI (own_ch pi1), vI (own_ch pi2), vI (own_ch pi3), vU, vU, vU, vU] [(.ref b174)]) st174 ?_
    refine og T174 (mkF m 102 #[vI pi0, vI pi1, vI pi2, vI pi3, vI pi4, vI (3 : Int32), vI (own_ch pi0), vI (own_ch pi1), vI (own_ch pi2), vI (own_ch pi3), vU, vU, vU, vU] [(.int (own_ch pi0)), (.int (0 : Int32)), (.ref b174), (.ref b174)]) (fun _ k => XS.dup X174.here hx rfl (hb hby at_98) rfl rfl (XS.iconst X174.here hx rfl (hb hby at_99) (XS.iload X174.here hx rfl (hb hby at_100) rfl k))) ?_
    obtain ⟨cl179, Ar179, qr179, Sr179, Nr179, Hr179, Gr179⟩ := id V174
    obtain ⟨T179, h179, X179, e179, W179, st179⟩ := stC X174 hx hZ e174 Ar179 (j := (0 : Int32)) (inb_of Sr179 ⟨by decide, by decide⟩) (g := (mkF m 102 #[vI pi0, vI pi1, vI pi2, vI pi3, vI pi4, vI (3 : Int32), vI (own_ch pi0), vI (own_ch pi1), vI (own_ch pi2), vI (own_ch pi3), vU, vU, vU, vU] [(.int (own_ch pi0)), (.int (0 : Int32)), (.ref b174), (.ref b174)])) rfl rfl (hb hby at_102)
    have V179 : Arv Z h179 b174 k174 .char (3 : Int32) [(.int (nar .char (own_ch pi0))), (.int (0 : Int32)), (.int (0 : Int32))] (.int (0 : Int32)) := Arv.set Ar179 qr179 Sr179 Nr179 Hr179 Gr179 (fits_nar_char _) W179 0 rfl (lb rfl)
    rw [show nar .char (own_ch pi0) = (own_ch pi0) from (own_ncl (own_chl _))] at V179
    obtain ⟨_, q181, -⟩ := id V174
    have ch180 := CHr.wr W179 (Safe.arr hZ.alike q181 nofun) CH178.1
    have CH182 := CHr.trans CH178 ch180
    have N179 := Fr.snoc X179 N4 g175
    refine og T179 (mkF m 103 #[vI pi0, vI pi1, vI pi2, vI pi3, vI pi4, vI (3 : Int32), vI (own_ch pi0), vI (own_ch pi1), vI (own_ch pi2), vI (own_ch pi3), vU, vU, vU, vU] [(.ref b174)]) st179 ?_
    refine og T179 (mkF m 107 #[vI pi0, vI pi1, vI pi2, vI pi3, vI pi4, vI (3 : Int32), vI (own_ch pi0), vI (own_ch pi1), vI (own_ch pi2), vI (own_ch pi3), vU, vU, vU, vU] [(.int (own_ch pi1)), (.int (1 : Int32)), (.ref b174), (.ref b174)]) (fun _ k => XS.dup X179.here hx rfl (hb hby at_103) rfl rfl (XS.iconst X179.here hx rfl (hb hby at_104) (XS.iload X179.here hx rfl (hb hby at_105) rfl k))) ?_
    obtain ⟨cl183, Ar183, qr183, Sr183, Nr183, Hr183, Gr183⟩ := id V179
    obtain ⟨T183, h183, X183, e183, W183, st183⟩ := stC X179 hx hZ e179 Ar183 (j := (1 : Int32)) (inb_of Sr183 ⟨by decide, by decide⟩) (g := (mkF m 107 #[vI pi0, vI pi1, vI pi2, vI pi3, vI pi4, vI (3 : Int32), vI (own_ch pi0), vI (own_ch pi1), vI (own_ch pi2), vI (own_ch pi3), vU, vU, vU, vU] [(.int (own_ch pi1)), (.int (1 : Int32)), (.ref b174), (.ref b174)])) rfl rfl (hb hby at_107)
    have V183 : Arv Z h183 b174 k174 .char (3 : Int32) [(.int (own_ch pi0)), (.int (nar .char (own_ch pi1))), (.int (0 : Int32))] (.int (0 : Int32)) := Arv.set Ar183 qr183 Sr183 Nr183 Hr183 Gr183 (fits_nar_char _) W183 1 rfl (lb rfl)
    rw [show nar .char (own_ch pi1) = (own_ch pi1) from (own_ncl (own_chl _))] at V183
    obtain ⟨_, q185, -⟩ := id V179
    have ch184 := CHr.wr W183 (Safe.arr hZ.alike q185 nofun) CH182.1
    have CH186 := CHr.trans CH182 ch184
    have N183 := Fr.snoc X183 N179 g175
    refine og T183 (mkF m 108 #[vI pi0, vI pi1, vI pi2, vI pi3, vI pi4, vI (3 : Int32), vI (own_ch pi0), vI (own_ch pi1), vI (own_ch pi2), vI (own_ch pi3), vU, vU, vU, vU] [(.ref b174)]) st183 ?_
    refine og T183 (mkF m 112 #[vI pi0, vI pi1, vI pi2, vI pi3, vI pi4, vI (3 : Int32), vI (own_ch pi0), vI (own_ch pi1), vI (own_ch pi2), vI (own_ch pi3), vU, vU, vU, vU] [(.int (own_ch pi2)), (.int (2 : Int32)), (.ref b174), (.ref b174)]) (fun _ k => XS.dup X183.here hx rfl (hb hby at_108) rfl rfl (XS.iconst X183.here hx rfl (hb hby at_109) (XS.iload X183.here hx rfl (hb hby at_110) rfl k))) ?_
    obtain ⟨cl187, Ar187, qr187, Sr187, Nr187, Hr187, Gr187⟩ := id V183
    obtain ⟨T187, h187, X187, e187, W187, st187⟩ := stC X183 hx hZ e183 Ar187 (j := (2 : Int32)) (inb_of Sr187 ⟨by decide, by decide⟩) (g := (mkF m 112 #[vI pi0, vI pi1, vI pi2, vI pi3, vI pi4, vI (3 : Int32), vI (own_ch pi0), vI (own_ch pi1), vI (own_ch pi2), vI (own_ch pi3), vU, vU, vU, vU] [(.int (own_ch pi2)), (.int (2 : Int32)), (.ref b174), (.ref b174)])) rfl rfl (hb hby at_112)
    have V187 : Arv Z h187 b174 k174 .char (3 : Int32) [(.int (own_ch pi0)), (.int (own_ch pi1)), (.int (nar .char (own_ch pi2)))] (.int (0 : Int32)) := Arv.set Ar187 qr187 Sr187 Nr187 Hr187 Gr187 (fits_nar_char _) W187 2 rfl (lb rfl)
    rw [show nar .char (own_ch pi2) = (own_ch pi2) from (own_ncl (own_chl _))] at V187
    obtain ⟨_, q189, -⟩ := id V183
    have ch188 := CHr.wr W187 (Safe.arr hZ.alike q189 nofun) CH186.1
    have CH190 := CHr.trans CH186 ch188
    have N187 := Fr.snoc X187 N183 g175
    refine og T187 (mkF m 113 #[vI pi0, vI pi1, vI pi2, vI pi3, vI pi4, vI (3 : Int32), vI (own_ch pi0), vI (own_ch pi1), vI (own_ch pi2), vI (own_ch pi3), vU, vU, vU, vU] [(.ref b174)]) st187 ?_
    refine og T187 (mkF m 143 #[vI pi0, vI pi1, vI pi2, vI pi3, vI pi4, vI (3 : Int32), vI (own_ch pi0), vI (own_ch pi1), vI (own_ch pi2), vI (own_ch pi3), vR b174, vU, vU, vU] []) (fun _ k => XS.astore X187.here hx rfl (hb hby at_113) rfl rfl (l' := #[vI pi0, vI pi1, vI pi2, vI pi3, vI pi4, vI (3 : Int32), vI (own_ch pi0), vI (own_ch pi1), vI (own_ch pi2), vI (own_ch pi3), vR b174, vU, vU, vU]) rfl (XS.goto X187.here hx rfl (pc0 := 115) (pc' := 143) rfl (hb hby at_115) (by decide) (by decide) k)) ?_
    obtain ⟨T191, h191, X191, e191, E191, A191, D191, -, st191⟩ := newO X187 hx hZ hown (own_w hw 6) (own_w hw 7) (own_w hw 8) e187 (g := (mkF m 143 #[vI pi0, vI pi1, vI pi2, vI pi3, vI pi4, vI (3 : Int32), vI (own_ch pi0), vI (own_ch pi1), vI (own_ch pi2), vI (own_ch pi3), vR b174, vU, vU, vU] [])) rfl (hb hby at_143) (lb rfl) (lb rfl)
    obtain ⟨b191, gb191⟩ : ∃ z, z = h187.size := ⟨_, rfl⟩
    rw [← gb191] at A191 D191 st191
    have F193 := ((((OLD.ext E174).wr W179 g175).wr W183 g175).wr W187 g175)
    have g192 : n0 ≤ b191 := Nat.le_trans (own_osz F193) (Nat.le_of_eq gb191.symm)
    have F195 := (Nat.le_trans (Nat.le_trans (Nat.le_trans (Nat.le_trans (Nat.le_refl _) E174.1) (Nat.le_of_eq W179.size.symm)) (Nat.le_of_eq W183.size.symm)) (Nat.le_of_eq W187.size.symm))
    have z194 : h0.size ≤ b191 := Nat.le_trans F195 (Nat.le_of_eq gb191.symm)
    have ch196 := CHr.ext E191 CH190.1
    have CH197 := CHr.trans CH190 ch196
    have sf198 := own_safe_new CH190.1 E191 (Nat.le_of_eq gb191.symm)
    refine og T191 (mkF m 146 #[vI pi0, vI pi1, vI pi2, vI pi3, vI pi4, vI (3 : Int32), vI (own_ch pi0), vI (own_ch pi1), vI (own_ch pi2), vI (own_ch pi3), vR b174, vU, vU, vU] [(.ref b191)]) st191 ?_
    refine og T191 (mkF m 149 #[vI pi0, vI pi1, vI pi2, vI pi3, vI pi4, vI (3 : Int32), vI (own_ch pi0), vI (own_ch pi1), vI (own_ch pi2), vI (own_ch pi3), vR b174, vU, vU, vU] [(.ref b174), (.ref b191), (.ref b191)]) (fun _ k => XS.dup X191.here hx rfl (hb hby at_146) rfl rfl (XS.aload X191.here hx rfl (hb hby at_147) rfl rfl k)) ?_
    have F199 := (V187.ext E191)
    have hp200 : ∀ c ∈ ([(own_ch pi0), (own_ch pi1), (own_ch pi2)] : List Int32), ¬ c < 0 ∧ ¬ (255 : Int32) < c := by
      intro c hc
      simp only [List.mem_cons, List.not_mem_nil, or_false] at hc
      rcases hc with rfl | rfl | rfl
      · exact (own_chl _)
      · exact (own_chl _)
      · exact (own_chl _)
    have F201 := (F193.ext E191)
    obtain ⟨_, _, ⟨T202, L202, k202, n202⟩, -, X202, ⟨Lc202, hQ202, l202, y202, z202⟩, st202⟩ := X191.specialBack hx (y := y2) rfl hown (mvT hZ (own_w hw 9)) (mvT hZ (own_w hw 10)) (mvT hZ (own_w hw 11)) (by decide) (StrChars.Road.backV (W := 1) hZ (own_hws hw) (kI := 4) (own_w hw 7) (cs := ([(own_ch pi0), (own_ch pi1), (own_ch pi2)] : List Int32)) (bs := (([(own_ch pi0), (own_ch pi1), (own_ch pi2)] : List Int32).map (fun c => c.toInt8.toInt32))) (n := 3) g192 (own_osz F201) A191 (D191 (Or.inr (own_w hw 21)) (ty := (.array .byte)) (by decide)) (D191 (Or.inr (own_w hw 22)) (ty := .byte) (by decide)) F199 (O2.ext F201.2) P5 rfl rfl (by decide) (by decide) hp200 rfl (lb rfl) (lb rfl)) (g := (mkF m 149 #[vI pi0, vI pi1, vI pi2, vI pi3, vI pi4, vI (3 : Int32), vI (own_ch pi0), vI (own_ch pi1), vI (own_ch pi2), vI (own_ch pi3), vR b174, vU, vU, vU] [(.ref b174), (.ref b191), (.ref b191)])) rfl (by rw [hml]; rfl) (Steps.refl _) (a := b191) (argsL := [(.ref b174)]) (rest := [(.ref b191)]) (lenOf pd_2 rfl) rfl (lb rfl) (hb hby at_149) (fun _ _ => ⟨rfl, e191, (lb rfl), (lb rfl)⟩)
    dsimp only [Pt.U, Pt.locs, Pt.cells, Pt.slots] at X202 l202 y202 z202 st202 hQ202
    subst l202 y202 z202
    obtain ⟨rfl, Nq202, K202, Ex202, Fc202, t202, kb202, -, lo202, -, Fv202, Av202⟩ := hQ202
    have N202 := Fr.app N187 Nq202
    have g203 : n0 ≤ t202 := Nat.le_trans (own_osz F201) lo202
    have F205 := (Nat.le_trans F195 E191.1)
    have z204 : h0.size ≤ t202 := Nat.le_trans F205 lo202
    have ch206 := CHr.keep K202 (allS sf198 all0) CH197.1
    have CH207 := CHr.trans CH197 ch206
    refine ot T202 (mkF m 152 #[vI pi0, vI pi1, vI pi2, vI pi3, vI pi4, vI (3 : Int32), vI (own_ch pi0), vI (own_ch pi1), vI (own_ch pi2), vI (own_ch pi3), vR b174, vU, vU, vU] [(.ref b191)]) st202 ?_
    refine og T202 (mkF m 166 #[vI pi0, vI pi1, vI pi2, vI pi3, vI pi4, vI (3 : Int32), vI (own_ch pi0), vI (own_ch pi1), vI (own_ch pi2), vI (own_ch pi3), vR b174, vR b191, vI (0 : Int32), vU] [(.int (46 : Int32)), (.int (own_ch pi0))]) (fun _ k => XS.astore X202.here hx rfl (hb hby at_152) rfl rfl (l' := #[vI pi0, vI pi1, vI pi2, vI pi3, vI pi4, vI (3 : Int32), vI (own_ch pi0), vI (own_ch pi1), vI (own_ch pi2), vI (own_ch pi3), vR b174, vR b191, vU, vU]) rfl (XS.iconst X202.here hx rfl (hb hby at_154) (XS.istore X202.here hx rfl (hb hby at_155) rfl (l' := #[vI pi0, vI pi1, vI pi2, vI pi3, vI pi4, vI (3 : Int32), vI (own_ch pi0), vI (own_ch pi1), vI (own_ch pi2), vI (own_ch pi3), vR b174, vR b191, vI (0 : Int32), vU]) rfl (XS.iload X202.here hx rfl (hb hby at_157) rfl (XS.ifNo X202.here hx rfl (hb hby at_159) rfl ((if0 _ _).trans (tlt (by decide : (0 : Int32) < (3 : Int32))).2.2.2) (XS.iload X202.here hx rfl (hb hby at_162) rfl (XS.bipush X202.here hx rfl (hb hby at_164) k))))))) ?_
    have J208 : own_Fin p.tables e below (own_PW s Z own_EL (Qlaw Z pi0 pi1 pi2 pi3 pi4 G1 G3 h0 n0) room_1.cells room_1.slots) T202 (mkF m 172 #[vI pi0, vI pi1, vI pi2, vI pi3, vI pi4, vI (3 : Int32), vI (own_ch pi0), vI (own_ch pi1), vI (own_ch pi2), vI (own_ch pi3), vR b174, vR b191, vI (own_k (1 : Int32) (own_ch pi0) (0 : Int32)), vU] []) → own_Fin p.tables e below (own_PW s Z own_EL (Qlaw Z pi0 pi1 pi2 pi3 pi4 G1 G3 h0 n0) room_1.cells room_1.slots) T202 (mkF m 166 #[vI pi0, vI pi1, vI pi2, vI pi3, vI pi4, vI (3 : Int32), vI (own_ch pi0), vI (own_ch pi1), vI (own_ch pi2), vI (own_ch pi3), vR b174, vR b191, vI (0 : Int32), vU] [(.int (46 : Int32)), (.int (own_ch pi0))]) := by
      intro k0
      by_cases hc209 : (own_ch pi0) = (46 : Int32)
      · refine og T202 (mkF m 172 #[vI pi0, vI pi1, vI pi2, vI pi3, vI pi4, vI (3 : Int32), vI (own_ch pi0), vI (own_ch pi1), vI (own_ch pi2), vI (own_ch pi3), vR b174, vR b191, vI (1 : Int32), vU] []) (fun _ k => XS.icmpNo X202.here hx rfl (hb hby at_166) rfl (teq hc209).2 (XS.iconst X202.here hx rfl (hb hby at_169) (XS.istore X202.here hx rfl (hb hby at_170) rfl (l' := #[vI pi0, vI pi1, vI pi2, vI pi3, vI pi4, vI (3 : Int32), vI (own_ch pi0), vI (own_ch pi1), vI (own_ch pi2), vI (own_ch pi3), vR b174, vR b191, vI (1 : Int32), vU]) rfl k))) ?_
        rw [own_k1 hc209] at k0; exact k0
      · refine og T202 (mkF m 172 #[vI pi0, vI pi1, vI pi2, vI pi3, vI pi4, vI (3 : Int32), vI (own_ch pi0), vI (own_ch pi1), vI (own_ch pi2), vI (own_ch pi3), vR b174, vR b191, vI (0 : Int32), vU] []) (fun _ k => XS.icmpYes X202.here hx rfl (pc0 := 166) (pc' := 172) rfl (hb hby at_166) rfl (feq hc209).2 (by decide) (by decide) k) ?_
        rw [own_k0 hc209] at k0; exact k0
    refine J208 ?_
    refine og T202 (mkF m 182 #[vI pi0, vI pi1, vI pi2, vI pi3, vI pi4, vI (3 : Int32), vI (own_ch pi0), vI (own_ch pi1), vI (own_ch pi2), vI (own_ch pi3), vR b174, vR b191, vI (own_k (1 : Int32) (own_ch pi0) (0 : Int32)), vU] [(.int (46 : Int32)), (.int (own_ch pi1))]) (fun _ k => XS.iload X202.here hx rfl (hb hby at_172) rfl (XS.iconst X202.here hx rfl (hb hby at_174) (XS.icmpNo X202.here hx rfl (hb hby at_175) rfl (tlt (by decide : (1 : Int32) < (3 : Int32))).2.2.2 (XS.iload X202.here hx rfl (hb hby at_178) rfl (XS.bipush X202.here hx rfl (hb hby at_180) k))))) ?_
    have J210 : own_Fin p.tables e below (own_PW s Z own_EL (Qlaw Z pi0 pi1 pi2 pi3 pi4 G1 G3 h0 n0) room_1.cells room_1.slots) T202 (mkF m 188 #[vI pi0, vI pi1, vI pi2, vI pi3, vI pi4, vI (3 : Int32), vI (own_ch pi0), vI (own_ch pi1), vI (own_ch pi2), vI (own_ch pi3), vR b174, vR b191, vI (own_k (2 : Int32) (own_ch pi1) (own_k (1 : Int32) (own_ch pi0) (0 : Int32))), vU] []) → own_Fin p.tables e below (own_PW s Z own_EL (Qlaw Z pi0 pi1 pi2 pi3 pi4 G1 G3 h0 n0) room_1.cells room_1.slots) T202 (mkF m 182 #[vI pi0, vI pi1, vI pi2, vI pi3, vI pi4, vI (3 : Int32), vI (own_ch pi0), vI (own_ch pi1), vI (own_ch pi2), vI (own_ch pi3), vR b174, vR b191, vI (own_k (1 : Int32) (own_ch pi0) (0 : Int32)), vU] [(.int (46 : Int32)), (.int (own_ch pi1))]) := by
      intro k0
      by_cases hc211 : (own_ch pi1) = (46 : Int32)
      · refine og T202 (mkF m 188 #[vI pi0, vI pi1, vI pi2, vI pi3, vI pi4, vI (3 : Int32), vI (own_ch pi0), vI (own_ch pi1), vI (own_ch pi2), vI (own_ch pi3), vR b174, vR b191, vI (2 : Int32), vU] []) (fun _ k => XS.icmpNo X202.here hx rfl (hb hby at_182) rfl (teq hc211).2 (XS.iconst X202.here hx rfl (hb hby at_185) (XS.istore X202.here hx rfl (hb hby at_186) rfl (l' := #[vI pi0, vI pi1, vI pi2, vI pi3, vI pi4, vI (3 : Int32), vI (own_ch pi0), vI (own_ch pi1), vI (own_ch pi2), vI (own_ch pi3), vR b174, vR b191, vI (2 : Int32), vU]) rfl k))) ?_
        rw [own_k1 hc211] at k0; exact k0
      · refine og T202 (mkF m 188 #[vI pi0, vI pi1, vI pi2, vI pi3, vI pi4, vI (3 : Int32), vI (own_ch pi0), vI (own_ch pi1), vI (own_ch pi2), vI (own_ch pi3), vR b174, vR b191, vI (own_k (1 : Int32) (own_ch pi0) (0 : Int32)), vU] []) (fun _ k => XS.icmpYes X202.here hx rfl (pc0 := 182) (pc' := 188) rfl (hb hby at_182) rfl (feq hc211).2 (by decide) (by decide) k) ?_
        rw [own_k0 hc211] at k0; exact k0
    refine J210 ?_
    refine og T202 (mkF m 198 #[vI pi0, vI pi1, vI pi2, vI pi3, vI pi4, vI (3 : Int32), vI (own_ch pi0), vI (own_ch pi1), vI (own_ch pi2), vI (own_ch pi3), vR b174, vR b191, vI (own_k (2 : Int32) (own_ch pi1) (own_k (1 : Int32) (own_ch pi0) (0 : Int32))), vU] [(.int (46 : Int32)), (.int (own_ch pi2))]) (fun _ k => XS.iload X202.here hx rfl (hb hby at_188) rfl (XS.iconst X202.here hx rfl (hb hby at_190) (XS.icmpNo X202.here hx rfl (hb hby at_191) rfl (tlt (by decide : (2 : Int32) < (3 : Int32))).2.2.2 (XS.iload X202.here hx rfl (hb hby at_194) rfl (XS.bipush X202.here hx rfl (hb hby at_196) k))))) ?_
    have J212 : own_Fin p.tables e below (own_PW s Z own_EL (Qlaw Z pi0 pi1 pi2 pi3 pi4 G1 G3 h0 n0) room_1.cells room_1.slots) T202 (mkF m 204 #[vI pi0, vI pi1, vI pi2, vI pi3, vI pi4, vI (3 : Int32), vI (own_ch pi0), vI (own_ch pi1), vI (own_ch pi2), vI (own_ch pi3), vR b174, vR b191, vI (own_k (3 : Int32) (own_ch pi2) (own_k (2 : Int32) (own_ch pi1) (own_k (1 : Int32) (own_ch pi0) (0 : Int32)))), vU] []) → own_Fin p.tables e below (own_PW s Z own_EL (Qlaw Z pi0 pi1 pi2 pi3 pi4 G1 G3 h0 n0) room_1.cells room_1.slots) T202 (mkF m 198 #[vI pi0, vI pi1, vI pi2, vI pi3, vI pi4, vI (3 : Int32), vI (own_ch pi0), vI (own_ch pi1), vI (own_ch pi2), vI (own_ch pi3), vR b174, vR b191, vI (own_k (2 : Int32) (own_ch pi1) (own_k (1 : Int32) (own_ch pi0) (0 : Int32))), vU] [(.int (46 : Int32)), (.int (own_ch pi2))]) := by
      intro k0
      by_cases hc213 : (own_ch pi2) = (46 : Int32)
      · refine og T202 (mkF m 204 #[vI pi0, vI pi1, vI pi2, vI pi3, vI pi4, vI (3 : Int32), vI (own_ch pi0), vI (own_ch pi1), vI (own_ch pi2), vI (own_ch pi3), vR b174, vR b191, vI (3 : Int32), vU] []) (fun _ k => XS.icmpNo X202.here hx rfl (hb hby at_198) rfl (teq hc213).2 (XS.iconst X202.here hx rfl (hb hby at_201) (XS.istore X202.here hx rfl (hb hby at_202) rfl (l' := #[vI pi0, vI pi1, vI pi2, vI pi3, vI pi4, vI (3 : Int32), vI (own_ch pi0), vI (own_ch pi1), vI (own_ch pi2), vI (own_ch pi3), vR b174, vR b191, vI (3 : Int32), vU]) rfl k))) ?_
        rw [own_k1 hc213] at k0; exact k0
      · refine og T202 (mkF m 204 #[vI pi0, vI pi1, vI pi2, vI pi3, vI pi4, vI (3 : Int32), vI (own_ch pi0), vI (own_ch pi1), vI (own_ch pi2), vI (own_ch pi3), vR b174, vR b191, vI (own_k (2 : Int32) (own_ch pi1) (own_k (1 : Int32) (own_ch pi0) (0 : Int32))), vU] []) (fun _ k => XS.icmpYes X202.here hx rfl (pc0 := 198) (pc' := 204) rfl (hb hby at_198) rfl (feq hc213).2 (by decide) (by decide) k) ?_
        rw [own_k0 hc213] at k0; exact k0
    refine J212 ?_
    refine og T202 (mkF m 222 #[vI pi0, vI pi1, vI pi2, vI pi3, vI pi4, vI (3 : Int32), vI (own_ch pi0), vI (own_ch pi1), vI (own_ch pi2), vI (own_ch pi3), vR b174, vR b191, vI (own_k (3 : Int32) (own_ch pi2) (own_k (2 : Int32) (own_ch pi1) (own_k (1 : Int32) (own_ch pi0) (0 : Int32)))), vU] [(.ref b191)]) (fun _ k => XS.iload X202.here hx rfl (hb hby at_204) rfl (XS.iconst X202.here hx rfl (hb hby at_206) (XS.icmpYes X202.here hx rfl (pc0 := 207) (pc' := 220) rfl (hb hby at_207) rfl (flt (by decide : ¬ ((3 : Int32) < (3 : Int32)))).2.2.2 (by decide) (by decide) (XS.aload X202.here hx rfl (hb hby at_220) rfl rfl k)))) ?_
    have F214 := (F201.keep K202 (allS g192 all0))
    obtain ⟨_, _, ⟨T215, L215, k215, n215⟩, -, X215, hs215, hg215, ⟨Lc215, hQ215, l215, y215, z215, ch215⟩, st215⟩ := callSS X202 hx (y := y13) hown (mvT hZ (own_w hw 27)) (mvT hZ (own_w hw 28)) (mvT hZ (own_w hw 29)) (mvT hZ (own_w hw 30)) (by decide) (own_backSH (W := 0) (rm5_89 l Z a0 hw b191 t202 kb202 ((own_ch pi0)) ((own_ch pi1)) ((own_ch pi2)) G1 G3 T202.heap n0 F214 Ex202 Fc202 Fv202 (own_chl _) (own_chl _) (own_chl _) Av202 O2 P5 O4 rG3) hZ (own_w hw 30) (own_w hw 29) (lb rfl) (lb rfl) (own_EW hw) CH207.1 all0) (g := (mkF m 222 #[vI pi0, vI pi1, vI pi2, vI pi3, vI pi4, vI (3 : Int32), vI (own_ch pi0), vI (own_ch pi1), vI (own_ch pi2), vI (own_ch pi3), vR b174, vR b191, vI (own_k (3 : Int32) (own_ch pi2) (own_k (2 : Int32) (own_ch pi1) (own_k (1 : Int32) (own_ch pi0) (0 : Int32)))), vU] [(.ref b191)])) rfl (by rw [hml]; rfl) (argsL := [(.ref b191)]) (rest := []) (lenOf pd_12 rfl) rfl (lb rfl) (hb hby at_222) (fun _ _ => ⟨rfl, rfl, (lb rfl), (lb rfl)⟩)
    dsimp only [Pt.U, Pt.locs, Pt.cells, Pt.slots] at X215 l215 y215 z215 st215 hQ215 hs215 hg215 ch215
    subst l215 y215 z215
    replace X215 := own_reb X215
    have F216 := (Nat.le_trans (Nat.le_trans (Nat.le_trans (Nat.le_trans hk0 E174.1) (Nat.le_of_eq W179.size.symm)) (Nat.le_of_eq W183.size.symm)) (Nat.le_of_eq W187.size.symm))
    have F217 := (Nat.le_trans (Nat.le_trans F216 E191.1) K202.1)
    obtain ⟨hZ215, hS215, hown215⟩ := own_after hZ hS0 rfl F217 hs215 hg215 hown
    rcases hQ215 with hQ215 | hQ215 | hQ215 | hQ215
    · obtain ⟨hc218, rfl, Nq215, eq215⟩ := hQ215
      have N215 := Fr.app N202 Nq215
      rw [eq215] at ch215 hS215
      have CH219 := CHr.trans CH207 ch215
      refine ot T215 (mkF m 225 #[vI pi0, vI pi1, vI pi2, vI pi3, vI pi4, vI (3 : Int32), vI (own_ch pi0), vI (own_ch pi1), vI (own_ch pi2), vI (own_ch pi3), vR b174, vR b191, vI (own_k (3 : Int32) (own_ch pi2) (own_k (2 : Int32) (own_ch pi1) (own_k (1 : Int32) (own_ch pi0) (0 : Int32)))), vU] [(.ref b191)]) st215 ?_
      refine og T215 (mkF m 227 #[vI pi0, vI pi1, vI pi2, vI pi3, vI pi4, vI (3 : Int32), vI (own_ch pi0), vI (own_ch pi1), vI (own_ch pi2), vI (own_ch pi3), vR b174, vR b191, vI (own_k (3 : Int32) (own_ch pi2) (own_k (2 : Int32) (own_ch pi1) (own_k (1 : Int32) (own_ch pi0) (0 : Int32)))), vR b191] []) (fun _ k => XS.astore X215.here hx rfl (hb hby at_225) rfl rfl (l' := #[vI pi0, vI pi1, vI pi2, vI pi3, vI pi4, vI (3 : Int32), vI (own_ch pi0), vI (own_ch pi1), vI (own_ch pi2), vI (own_ch pi3), vR b174, vR b191, vI (own_k (3 : Int32) (own_ch pi2) (own_k (2 : Int32) (own_ch pi1) (own_k (1 : Int32) (own_ch pi0) (0 : Int32)))), vR b191]) rfl k) ?_
      have hd220 := own_c46 (own_chl _) hc218
      have hk221 : (own_k (3 : Int32) (own_ch pi2) (own_k (2 : Int32) (own_ch pi1) (own_k (1 : Int32) (own_ch pi0) (0 : Int32)))) = (3 : Int32) := by simp only [own_k, hd220, if_true, if_false, if_pos, if_neg, not_false_eq_true, reduceIte]
      rw [hk221]
      refine og T215 (mkF m 229 #[vI pi0, vI pi1, vI pi2, vI pi3, vI pi4, vI (3 : Int32), vI (own_ch pi0), vI (own_ch pi1), vI (own_ch pi2), vI (own_ch pi3), vR b174, vR b191, vI (3 : Int32), vR b191] [(.ref b191)]) (fun _ k => XS.aload X215.here hx rfl (hb hby at_227) rfl rfl k) ?_
      obtain ⟨cq222, kq222, q222a, q222b, q222c⟩ := isOf hZ215 eq215 Ex202
      obtain ⟨_, _, ⟨T222, L222, k222, n222⟩, -, X222, ⟨Lc222, hQ222, l222, y222, z222⟩, st222⟩ := X215.virtualBack hx (y := y3) (z := y3) hown215 (mvT hZ215 (own_w hw 81)) (mvT hZ215 (own_w hw 37)) (notFace_of_selects (args := #[]) (mvT hZ215 (own_w hw 39))) (mvT hZ215 (own_w hw 39)) (mvT hZ215 (own_w hw 38)) (by decide) (StrChars.Road.lenW (W := 0) hZ215 (own_hln hw) (kI := 4) (own_w hw 7) (cs := ([(own_ch pi0), (own_ch pi1), (own_ch pi2)] : List Int32)) Ex202 Fv202 Fc202 Av202 (StrChars.Road.codOf rfl (fun c hc => (hp200 c hc).2)) (own_up _ hp200) (O2.ext F214.2) P5 (lb rfl) (lb rfl) (lb rfl)) q222a q222c (g := (mkF m 229 #[vI pi0, vI pi1, vI pi2, vI pi3, vI pi4, vI (3 : Int32), vI (own_ch pi0), vI (own_ch pi1), vI (own_ch pi2), vI (own_ch pi3), vR b174, vR b191, vI (3 : Int32), vR b191] [(.ref b191)])) rfl (by rw [hml]; rfl) (Steps.refl _) (argsL := []) (rest := []) (lenOf pd_3 rfl) rfl (lb rfl) (hb hby at_229) (fun _ _ => ⟨rfl, eq215, (lb rfl), (lb rfl)⟩)
      dsimp only [Pt.U, Pt.locs, Pt.cells, Pt.slots] at X222 l222 y222 z222 st222 hQ222
      subst l222 y222 z222
      obtain ⟨rfl, rfl, eq222⟩ := hQ222
      have N222 := Fr.app N215 (Fr.nil n0)
      refine ot T222 (mkF m 232 #[vI pi0, vI pi1, vI pi2, vI pi3, vI pi4, vI (3 : Int32), vI (own_ch pi0), vI (own_ch pi1), vI (own_ch pi2), vI (own_ch pi3), vR b174, vR b191, vI (3 : Int32), vR b191] [(.int (3 : Int32))]) st222 ?_
      refine og T222 (mkF m 247 #[vI pi0, vI pi1, vI pi2, vI pi3, vI pi4, vI (3 : Int32), vI (own_ch pi0), vI (own_ch pi1), vI (own_ch pi2), vI (own_ch pi3), vR b174, vR b191, vI (3 : Int32), vR b191] [(.int (0 : Int32)), (.ref b191)]) (fun _ k => XS.iload X222.here hx rfl (hb hby at_232) rfl (XS.icmpYes X222.here hx rfl (pc0 := 234) (pc' := 239) rfl (hb hby at_234) rfl (teq (by decide : (3 : Int32) = (3 : Int32))).1 (by decide) (by decide) (XS.iload X222.here hx rfl (hb hby at_239) rfl (XS.ifNo X222.here hx rfl (hb hby at_241) rfl ((if0 _ _).trans (tlt (by decide : (0 : Int32) < (3 : Int32))).2.2.2) (XS.aload X222.here hx rfl (hb hby at_244) rfl rfl (XS.iconst X222.here hx rfl (hb hby at_246) k)))))) ?_
      obtain ⟨cq223, kq223, q223a, q223b, q223c⟩ := isOf hZ215 eq222 Ex202
      obtain ⟨_, _, ⟨T223, L223, k223, n223⟩, -, X223, ⟨Lc223, hQ223, l223, y223, z223⟩, st223⟩ := X222.virtualBack hx (y := y15) (z := y15) hown215 (mvT hZ215 (own_w hw 114)) (mvT hZ215 (own_w hw 115)) (notFace_of_selects (args := #[]) (mvT hZ215 (own_w hw 117))) (mvT hZ215 (own_w hw 117)) (mvT hZ215 (own_w hw 116)) (by decide) (StrChars.Road.chN (W := 0) hZ215 (own_hch hw) (kI := 4) (own_w hw 7) (cs := ([(own_ch pi0), (own_ch pi1), (own_ch pi2)] : List Int32)) (i := 0) Ex202 Fv202 Fc202 Av202 (StrChars.Road.codOf rfl (fun c hc => (hp200 c hc).2)) (own_up _ hp200) (O2.ext F214.2) P5 (O4.ext F214.2) rG3 (lb rfl) (lb rfl) rfl (lb rfl) (lb rfl)) q223a q223c (g := (mkF m 247 #[vI pi0, vI pi1, vI pi2, vI pi3, vI pi4, vI (3 : Int32), vI (own_ch pi0), vI (own_ch pi1), vI (own_ch pi2), vI (own_ch pi3), vR b174, vR b191, vI (3 : Int32), vR b191] [(.int (0 : Int32)), (.ref b191)])) rfl (by rw [hml]; rfl) (Steps.refl _) (argsL := [(.int (0 : Int32))]) (rest := []) (lenOf pd_0 rfl) rfl (lb rfl) (hb hby at_247) (fun _ _ => ⟨rfl, eq222, (lb rfl), (lb rfl)⟩)
      dsimp only [Pt.U, Pt.locs, Pt.cells, Pt.slots] at X223 l223 y223 z223 st223 hQ223
      subst l223 y223 z223
      obtain ⟨rfl, rfl, eq223⟩ := hQ223
      have N223 := Fr.app N222 (Fr.nil n0)
      refine ot T223 (mkF m 250 #[vI pi0, vI pi1, vI pi2, vI pi3, vI pi4, vI (3 : Int32), vI (own_ch pi0), vI (own_ch pi1), vI (own_ch pi2), vI (own_ch pi3), vR b174, vR b191, vI (3 : Int32), vR b191] [(.int (own_ch pi0))]) st223 ?_
      refine og T223 (mkF m 266 #[vI pi0, vI pi1, vI pi2, vI pi3, vI pi4, vI (3 : Int32), vI (own_ch pi0), vI (own_ch pi1), vI (own_ch pi2), vI (own_ch pi3), vR b174, vR b191, vI (3 : Int32), vR b191] [(.int (1 : Int32)), (.ref b191)]) (fun _ k => XS.iload X223.here hx rfl (hb hby at_250) rfl (XS.icmpYes X223.here hx rfl (pc0 := 252) (pc' := 257) rfl (hb hby at_252) rfl (teq (rfl : (own_ch pi0) = (own_ch pi0))).1 (by decide) (by decide) (XS.iload X223.here hx rfl (hb hby at_257) rfl (XS.iconst X223.here hx rfl (hb hby at_259) (XS.icmpNo X223.here hx rfl (hb hby at_260) rfl (tlt (by decide : (1 : Int32) < (3 : Int32))).2.2.2 (XS.aload X223.here hx rfl (hb hby at_263) rfl rfl (XS.iconst X223.here hx rfl (hb hby at_265) k))))))) ?_
      obtain ⟨cq224, kq224, q224a, q224b, q224c⟩ := isOf hZ215 eq223 Ex202
      obtain ⟨_, _, ⟨T224, L224, k224, n224⟩, -, X224, ⟨Lc224, hQ224, l224, y224, z224⟩, st224⟩ := X223.virtualBack hx (y := y15) (z := y15) hown215 (mvT hZ215 (own_w hw 114)) (mvT hZ215 (own_w hw 115)) (notFace_of_selects (args := #[]) (mvT hZ215 (own_w hw 117))) (mvT hZ215 (own_w hw 117)) (mvT hZ215 (own_w hw 116)) (by decide) (StrChars.Road.chN (W := 0) hZ215 (own_hch hw) (kI := 4) (own_w hw 7) (cs := ([(own_ch pi0), (own_ch pi1), (own_ch pi2)] : List Int32)) (i := 1) Ex202 Fv202 Fc202 Av202 (StrChars.Road.codOf rfl (fun c hc => (hp200 c hc).2)) (own_up _ hp200) (O2.ext F214.2) P5 (O4.ext F214.2) rG3 (lb rfl) (lb rfl) rfl (lb rfl) (lb rfl)) q224a q224c (g := (mkF m 266 #[vI pi0, vI pi1, vI pi2, vI pi3, vI pi4, vI (3 : Int32), vI (own_ch pi0), vI (own_ch pi1), vI (own_ch pi2), vI (own_ch pi3), vR b174, vR b191, vI (3 : Int32), vR b191] [(.int (1 : Int32)), (.ref b191)])) rfl (by rw [hml]; rfl) (Steps.refl _) (argsL := [(.int (1 : Int32))]) (rest := []) (lenOf pd_0 rfl) rfl (lb rfl) (hb hby at_266) (fun _ _ => ⟨rfl, eq223, (lb rfl), (lb rfl)⟩)
      dsimp only [Pt.U, Pt.locs, Pt.cells, Pt.slots] at X224 l224 y224 z224 st224 hQ224
      subst l224 y224 z224
      obtain ⟨rfl, rfl, eq224⟩ := hQ224
      have N224 := Fr.app N223 (Fr.nil n0)
      refine ot T224 (mkF m 269 #[vI pi0, vI pi1, vI pi2, vI pi3, vI pi4, vI (3 : Int32), vI (own_ch pi0), vI (own_ch pi1), vI (own_ch pi2), vI (own_ch pi3), vR b174, vR b191, vI (3 : Int32), vR b191] [(.int (own_ch pi1))]) st224 ?_
      refine og T224 (mkF m 285 #[vI pi0, vI pi1, vI pi2, vI pi3, vI pi4, vI (3 : Int32), vI (own_ch pi0), vI (own_ch pi1), vI (own_ch pi2), vI (own_ch pi3), vR b174, vR b191, vI (3 : Int32), vR b191] [(.int (2 : Int32)), (.ref b191)]) (fun _ k => XS.iload X224.here hx rfl (hb hby at_269) rfl (XS.icmpYes X224.here hx rfl (pc0 := 271) (pc' := 276) rfl (hb hby at_271) rfl (teq (rfl : (own_ch pi1) = (own_ch pi1))).1 (by decide) (by decide) (XS.iload X224.here hx rfl (hb hby at_276) rfl (XS.iconst X224.here hx rfl (hb hby at_278) (XS.icmpNo X224.here hx rfl (hb hby at_279) rfl (tlt (by decide : (2 : Int32) < (3 : Int32))).2.2.2 (XS.aload X224.here hx rfl (hb hby at_282) rfl rfl (XS.iconst X224.here hx rfl (hb hby at_284) k))))))) ?_
      obtain ⟨cq225, kq225, q225a, q225b, q225c⟩ := isOf hZ215 eq224 Ex202
      obtain ⟨_, _, ⟨T225, L225, k225, n225⟩, -, X225, ⟨Lc225, hQ225, l225, y225, z225⟩, st225⟩ := X224.virtualBack hx (y := y15) (z := y15) hown215 (mvT hZ215 (own_w hw 114)) (mvT hZ215 (own_w hw 115)) (notFace_of_selects (args := #[]) (mvT hZ215 (own_w hw 117))) (mvT hZ215 (own_w hw 117)) (mvT hZ215 (own_w hw 116)) (by decide) (StrChars.Road.chN (W := 0) hZ215 (own_hch hw) (kI := 4) (own_w hw 7) (cs := ([(own_ch pi0), (own_ch pi1), (own_ch pi2)] : List Int32)) (i := 2) Ex202 Fv202 Fc202 Av202 (StrChars.Road.codOf rfl (fun c hc => (hp200 c hc).2)) (own_up _ hp200) (O2.ext F214.2) P5 (O4.ext F214.2) rG3 (lb rfl) (lb rfl) rfl (lb rfl) (lb rfl)) q225a q225c (g := (mkF m 285 #[vI pi0, vI pi1, vI pi2, vI pi3, vI pi4, vI (3 : Int32), vI (own_ch pi0), vI (own_ch pi1), vI (own_ch pi2), vI (own_ch pi3), vR b174, vR b191, vI (3 : Int32), vR b191] [(.int (2 : Int32)), (.ref b191)])) rfl (by rw [hml]; rfl) (Steps.refl _) (argsL := [(.int (2 : Int32))]) (rest := []) (lenOf pd_0 rfl) rfl (lb rfl) (hb hby at_285) (fun _ _ => ⟨rfl, eq224, (lb rfl), (lb rfl)⟩)
      dsimp only [Pt.U, Pt.locs, Pt.cells, Pt.slots] at X225 l225 y225 z225 st225 hQ225
      subst l225 y225 z225
      obtain ⟨rfl, rfl, eq225⟩ := hQ225
      have N225 := Fr.app N224 (Fr.nil n0)
      refine ot T225 (mkF m 288 #[vI pi0, vI pi1, vI pi2, vI pi3, vI pi4, vI (3 : Int32), vI (own_ch pi0), vI (own_ch pi1), vI (own_ch pi2), vI (own_ch pi3), vR b174, vR b191, vI (3 : Int32), vR b191] [(.int (own_ch pi2))]) st225 ?_
      refine og T225 (mkF m 315 #[vI pi0, vI pi1, vI pi2, vI pi3, vI pi4, vI (3 : Int32), vI (own_ch pi0), vI (own_ch pi1), vI (own_ch pi2), vI (own_ch pi3), vR b174, vR b191, vI (3 : Int32), vR b191] [(.int (1 : Int32))]) (fun _ k => XS.iload X225.here hx rfl (hb hby at_288) rfl (XS.icmpYes X225.here hx rfl (pc0 := 290) (pc' := 295) rfl (hb hby at_290) rfl (teq (rfl : (own_ch pi2) = (own_ch pi2))).1 (by decide) (by decide) (XS.iload X225.here hx rfl (hb hby at_295) rfl (XS.iconst X225.here hx rfl (hb hby at_297) (XS.icmpYes X225.here hx rfl (pc0 := 298) (pc' := 314) rfl (hb hby at_298) rfl (flt (by decide : ¬ ((3 : Int32) < (3 : Int32)))).2.2.2 (by decide) (by decide) (XS.iconst X225.here hx rfl (hb hby at_314) k)))))) ?_
      exact own_leaveW (s := s) (vm0 := T215.vm) X225 hS215 (Nat.le_refl _) hZ215 (own_EW hw) eq225 CH219 hh hlk (v := some (.int (nar .boolean (1 : Int32)))) (fun h => by rw [hret] at h; cases h) (lb rfl) (lb rfl) (by rw [eq225]; exact ⟨rfl, N225⟩) (fun fs hr => retN X225 hx (t := .boolean) hret (by simp) (hb hby at_315) hr)
    · obtain ⟨o226, o227, kc228, hc229, hc230, rfl, Nq215, K215, f231, f232, f233, f234, f235, f236⟩ := hQ215
      have N215 := Fr.app N202 Nq215
      have g237 : n0 ≤ o226 := Nat.le_trans (own_osz F214) f231
      have F239 := (Nat.le_trans F205 K202.1)
      have z238 : h0.size ≤ o226 := Nat.le_trans F239 f231
      have g240 : n0 ≤ o227 := Nat.le_trans (own_osz F214) f232
      have z241 : h0.size ≤ o227 := Nat.le_trans F239 f232
      have CH242 := CHr.trans CH207 ch215
      refine ot T215 (mkF m 225 #[vI pi0, vI pi1, vI pi2, vI pi3, vI pi4, vI (3 : Int32), vI (own_ch pi0), vI (own_ch pi1), vI (own_ch pi2), vI (own_ch pi3), vR b174, vR b191, vI (own_k (3 : Int32) (own_ch pi2) (own_k (2 : Int32) (own_ch pi1) (own_k (1 : Int32) (own_ch pi0) (0 : Int32)))), vU] [(.ref o226)]) st215 ?_
      refine og T215 (mkF m 227 #[vI pi0, vI pi1, vI pi2, vI pi3, vI pi4, vI (3 : Int32), vI (own_ch pi0), vI (own_ch pi1), vI (own_ch pi2), vI (own_ch pi3), vR b174, vR b191, vI (own_k (3 : Int32) (own_ch pi2) (own_k (2 : Int32) (own_ch pi1) (own_k (1 : Int32) (own_ch pi0) (0 : Int32)))), vR o226] []) (fun _ k => XS.astore X215.here hx rfl (hb hby at_225) rfl rfl (l' := #[vI pi0, vI pi1, vI pi2, vI pi3, vI pi4, vI (3 : Int32), vI (own_ch pi0), vI (own_ch pi1), vI (own_ch pi2), vI (own_ch pi3), vR b174, vR b191, vI (own_k (3 : Int32) (own_ch pi2) (own_k (2 : Int32) (own_ch pi1) (own_k (1 : Int32) (own_ch pi0) (0 : Int32)))), vR o226]) rfl k) ?_
      have hd243 := own_c46 (own_chl _) hc230
      have hd244 := own_c46n (own_chl _) hc229
      have hk245 : (own_k (3 : Int32) (own_ch pi2) (own_k (2 : Int32) (own_ch pi1) (own_k (1 : Int32) (own_ch pi0) (0 : Int32)))) = (2 : Int32) := by simp only [own_k, hd243, hd244, if_true, if_false, if_pos, if_neg, not_false_eq_true, reduceIte]
      rw [hk245]
      refine og T215 (mkF m 229 #[vI pi0, vI pi1, vI pi2, vI pi3, vI pi4, vI (3 : Int32), vI (own_ch pi0), vI (own_ch pi1), vI (own_ch pi2), vI (own_ch pi3), vR b174, vR b191, vI (2 : Int32), vR o226] [(.ref o226)]) (fun _ k => XS.aload X215.here hx rfl (hb hby at_227) rfl rfl k) ?_
      have hp246 : ∀ c ∈ ([(own_ch pi0), (own_ch pi1)] : List Int32), ¬ c < 0 ∧ ¬ (255 : Int32) < c := by
        intro c hc
        simp only [List.mem_cons, List.not_mem_nil, or_false] at hc
        rcases hc with rfl | rfl
        · exact (own_chl _)
        · exact (own_chl _)
      have F247 := (F214.keep K215 all0)
      obtain ⟨cq248, kq248, q248a, q248b, q248c⟩ := isOf hZ215 rfl f233
      obtain ⟨_, _, ⟨T248, L248, k248, n248⟩, -, X248, ⟨Lc248, hQ248, l248, y248, z248⟩, st248⟩ := X215.virtualBack hx (y := y3) (z := y3) hown215 (mvT hZ215 (own_w hw 81)) (mvT hZ215 (own_w hw 37)) (notFace_of_selects (args := #[]) (mvT hZ215 (own_w hw 39))) (mvT hZ215 (own_w hw 39)) (mvT hZ215 (own_w hw 38)) (by decide) (StrChars.Road.lenW (W := 0) hZ215 (own_hln hw) (kI := 4) (own_w hw 7) (cs := ([(own_ch pi0), (own_ch pi1)] : List Int32)) f233 f235 f234 f236 (StrChars.Road.codOf rfl (fun c hc => (hp246 c hc).2)) (own_up _ hp246) (O2.ext F247.2) P5 (lb rfl) (lb rfl) (lb rfl)) q248a q248c (g := (mkF m 229 #[vI pi0, vI pi1, vI pi2, vI pi3, vI pi4, vI (3 : Int32), vI (own_ch pi0), vI (own_ch pi1), vI (own_ch pi2), vI (own_ch pi3), vR b174, vR b191, vI (2 : Int32), vR o226] [(.ref o226)])) rfl (by rw [hml]; rfl) (Steps.refl _) (argsL := []) (rest := []) (lenOf pd_3 rfl) rfl (lb rfl) (hb hby at_229) (fun _ _ => ⟨rfl, rfl, (lb rfl), (lb rfl)⟩)
      dsimp only [Pt.U, Pt.locs, Pt.cells, Pt.slots] at X248 l248 y248 z248 st248 hQ248
      subst l248 y248 z248
      obtain ⟨rfl, rfl, eq248⟩ := hQ248
      have N248 := Fr.app N215 (Fr.nil n0)
      refine ot T248 (mkF m 232 #[vI pi0, vI pi1, vI pi2, vI pi3, vI pi4, vI (3 : Int32), vI (own_ch pi0), vI (own_ch pi1), vI (own_ch pi2), vI (own_ch pi3), vR b174, vR b191, vI (2 : Int32), vR o226] [(.int (2 : Int32))]) st248 ?_
      refine og T248 (mkF m 247 #[vI pi0, vI pi1, vI pi2, vI pi3, vI pi4, vI (3 : Int32), vI (own_ch pi0), vI (own_ch pi1), vI (own_ch pi2), vI (own_ch pi3), vR b174, vR b191, vI (2 : Int32), vR o226] [(.int (0 : Int32)), (.ref o226)]) (fun _ k => XS.iload X248.here hx rfl (hb hby at_232) rfl (XS.icmpYes X248.here hx rfl (pc0 := 234) (pc' := 239) rfl (hb hby at_234) rfl (teq (by decide : (2 : Int32) = (2 : Int32))).1 (by decide) (by decide) (XS.iload X248.here hx rfl (hb hby at_239) rfl (XS.ifNo X248.here hx rfl (hb hby at_241) rfl ((if0 _ _).trans (tlt (by decide : (0 : Int32) < (2 : Int32))).2.2.2) (XS.aload X248.here hx rfl (hb hby at_244) rfl rfl (XS.iconst X248.here hx rfl (hb hby at_246) k)))))) ?_
      obtain ⟨cq249, kq249, q249a, q249b, q249c⟩ := isOf hZ215 eq248 f233
      obtain ⟨_, _, ⟨T249, L249, k249, n249⟩, -, X249, ⟨Lc249, hQ249, l249, y249, z249⟩, st249⟩ := X248.virtualBack hx (y := y15) (z := y15) hown215 (mvT hZ215 (own_w hw 114)) (mvT hZ215 (own_w hw 115)) (notFace_of_selects (args := #[]) (mvT hZ215 (own_w hw 117))) (mvT hZ215 (own_w hw 117)) (mvT hZ215 (own_w hw 116)) (by decide) (StrChars.Road.chN (W := 0) hZ215 (own_hch hw) (kI := 4) (own_w hw 7) (cs := ([(own_ch pi0), (own_ch pi1)] : List Int32)) (i := 0) f233 f235 f234 f236 (StrChars.Road.codOf rfl (fun c hc => (hp246 c hc).2)) (own_up _ hp246) (O2.ext F247.2) P5 (O4.ext F247.2) rG3 (lb rfl) (lb rfl) rfl (lb rfl) (lb rfl)) q249a q249c (g := (mkF m 247 #[vI pi0, vI pi1, vI pi2, vI pi3, vI pi4, vI (3 : Int32), vI (own_ch pi0), vI (own_ch pi1), vI (own_ch pi2), vI (own_ch pi3), vR b174, vR b191, vI (2 : Int32), vR o226] [(.int (0 : Int32)), (.ref o226)])) rfl (by rw [hml]; rfl) (Steps.refl _) (argsL := [(.int (0 : Int32))]) (rest := []) (lenOf pd_0 rfl) rfl (lb rfl) (hb hby at_247) (fun _ _ => ⟨rfl, eq248, (lb rfl), (lb rfl)⟩)
      dsimp only [Pt.U, Pt.locs, Pt.cells, Pt.slots] at X249 l249 y249 z249 st249 hQ249
      subst l249 y249 z249
      obtain ⟨rfl, rfl, eq249⟩ := hQ249
      have N249 := Fr.app N248 (Fr.nil n0)
      refine ot T249 (mkF m 250 #[vI pi0, vI pi1, vI pi2, vI pi3, vI pi4, vI (3 : Int32), vI (own_ch pi0), vI (own_ch pi1), vI (own_ch pi2), vI (own_ch pi3), vR b174, vR b191, vI (2 : Int32), vR o226] [(.int (own_ch pi0))]) st249 ?_
      refine og T249 (mkF m 266 #[vI pi0, vI pi1, vI pi2, vI pi3, vI pi4, vI (3 : Int32), vI (own_ch pi0), vI (own_ch pi1), vI (own_ch pi2), vI (own_ch pi3), vR b174, vR b191, vI (2 : Int32), vR o226] [(.int (1 : Int32)), (.ref o226)]) (fun _ k => XS.iload X249.here hx rfl (hb hby at_250) rfl (XS.icmpYes X249.here hx rfl (pc0 := 252) (pc' := 257) rfl (hb hby at_252) rfl (teq (rfl : (own_ch pi0) = (own_ch pi0))).1 (by decide) (by decide) (XS.iload X249.here hx rfl (hb hby at_257) rfl (XS.iconst X249.here hx rfl (hb hby at_259) (XS.icmpNo X249.here hx rfl (hb hby at_260) rfl (tlt (by decide : (1 : Int32) < (2 : Int32))).2.2.2 (XS.aload X249.here hx rfl (hb hby at_263) rfl rfl (XS.iconst X249.here hx rfl (hb hby at_265) k))))))) ?_
      obtain ⟨cq250, kq250, q250a, q250b, q250c⟩ := isOf hZ215 eq249 f233
      obtain ⟨_, _, ⟨T250, L250, k250, n250⟩, -, X250, ⟨Lc250, hQ250, l250, y250, z250⟩, st250⟩ := X249.virtualBack hx (y := y15) (z := y15) hown215 (mvT hZ215 (own_w hw 114)) (mvT hZ215 (own_w hw 115)) (notFace_of_selects (args := #[]) (mvT hZ215 (own_w hw 117))) (mvT hZ215 (own_w hw 117)) (mvT hZ215 (own_w hw 116)) (by decide) (StrChars.Road.chN (W := 0) hZ215 (own_hch hw) (kI := 4) (own_w hw 7) (cs := ([(own_ch pi0), (own_ch pi1)] : List Int32)) (i := 1) f233 f235 f234 f236 (StrChars.Road.codOf rfl (fun c hc => (hp246 c hc).2)) (own_up _ hp246) (O2.ext F247.2) P5 (O4.ext F247.2) rG3 (lb rfl) (lb rfl) rfl (lb rfl) (lb rfl)) q250a q250c (g := (mkF m 266 #[vI pi0, vI pi1, vI pi2, vI pi3, vI pi4, vI (3 : Int32), vI (own_ch pi0), vI (own_ch pi1), vI (own_ch pi2), vI (own_ch pi3), vR b174, vR b191, vI (2 : Int32), vR o226] [(.int (1 : Int32)), (.ref o226)])) rfl (by rw [hml]; rfl) (Steps.refl _) (argsL := [(.int (1 : Int32))]) (rest := []) (lenOf pd_0 rfl) rfl (lb rfl) (hb hby at_266) (fun _ _ => ⟨rfl, eq249, (lb rfl), (lb rfl)⟩)
      dsimp only [Pt.U, Pt.locs, Pt.cells, Pt.slots] at X250 l250 y250 z250 st250 hQ250
      subst l250 y250 z250
      obtain ⟨rfl, rfl, eq250⟩ := hQ250
      have N250 := Fr.app N249 (Fr.nil n0)
      refine ot T250 (mkF m 269 #[vI pi0, vI pi1, vI pi2, vI pi3, vI pi4, vI (3 : Int32), vI (own_ch pi0), vI (own_ch pi1), vI (own_ch pi2), vI (own_ch pi3), vR b174, vR b191, vI (2 : Int32), vR o226] [(.int (own_ch pi1))]) st250 ?_
      refine og T250 (mkF m 315 #[vI pi0, vI pi1, vI pi2, vI pi3, vI pi4, vI (3 : Int32), vI (own_ch pi0), vI (own_ch pi1), vI (own_ch pi2), vI (own_ch pi3), vR b174, vR b191, vI (2 : Int32), vR o226] [(.int (1 : Int32))]) (fun _ k => XS.iload X250.here hx rfl (hb hby at_269) rfl (XS.icmpYes X250.here hx rfl (pc0 := 271) (pc' := 276) rfl (hb hby at_271) rfl (teq (rfl : (own_ch pi1) = (own_ch pi1))).1 (by decide) (by decide) (XS.iload X250.here hx rfl (hb hby at_276) rfl (XS.iconst X250.here hx rfl (hb hby at_278) (XS.icmpYes X250.here hx rfl (pc0 := 279) (pc' := 295) rfl (hb hby at_279) rfl (flt (by decide : ¬ ((2 : Int32) < (2 : Int32)))).2.2.2 (by decide) (by decide) (XS.iload X250.here hx rfl (hb hby at_295) rfl (XS.iconst X250.here hx rfl (hb hby at_297) (XS.icmpYes X250.here hx rfl (pc0 := 298) (pc' := 314) rfl (hb hby at_298) rfl (flt (by decide : ¬ ((3 : Int32) < (2 : Int32)))).2.2.2 (by decide) (by decide) (XS.iconst X250.here hx rfl (hb hby at_314) k))))))))) ?_
      exact own_leaveW (s := s) (vm0 := T215.vm) X250 hS215 (Nat.le_refl _) hZ215 (own_EW hw) eq250 CH242 hh hlk (v := some (.int (nar .boolean (1 : Int32)))) (fun h => by rw [hret] at h; cases h) (lb rfl) (lb rfl) (by rw [eq250]; exact ⟨rfl, N250⟩) (fun fs hr => retN X250 hx (t := .boolean) hret (by simp) (hb hby at_315) hr)
    · obtain ⟨o251, o252, kc253, hc254, hc255, hc256, rfl, Nq215, K215, f257, f258, f259, f260, f261, f262⟩ := hQ215
      have N215 := Fr.app N202 Nq215
      have g263 : n0 ≤ o251 := Nat.le_trans (own_osz F214) f257
      have F265 := (Nat.le_trans F205 K202.1)
      have z264 : h0.size ≤ o251 := Nat.le_trans F265 f257
      have g266 : n0 ≤ o252 := Nat.le_trans (own_osz F214) f258
      have z267 : h0.size ≤ o252 := Nat.le_trans F265 f258
      have CH268 := CHr.trans CH207 ch215
      refine ot T215 (mkF m 225 #[vI pi0, vI pi1, vI pi2, vI pi3, vI pi4, vI (3 : Int32), vI (own_ch pi0), vI (own_ch pi1), vI (own_ch pi2), vI (own_ch pi3), vR b174, vR b191, vI (own_k (3 : Int32) (own_ch pi2) (own_k (2 : Int32) (own_ch pi1) (own_k (1 : Int32) (own_ch pi0) (0 : Int32)))), vU] [(.ref o251)]) st215 ?_
      refine og T215 (mkF m 227 #[vI pi0, vI pi1, vI pi2, vI pi3, vI pi4, vI (3 : Int32), vI (own_ch pi0), vI (own_ch pi1), vI (own_ch pi2), vI (own_ch pi3), vR b174, vR b191, vI (own_k (3 : Int32) (own_ch pi2) (own_k (2 : Int32) (own_ch pi1) (own_k (1 : Int32) (own_ch pi0) (0 : Int32)))), vR o251] []) (fun _ k => XS.astore X215.here hx rfl (hb hby at_225) rfl rfl (l' := #[vI pi0, vI pi1, vI pi2, vI pi3, vI pi4, vI (3 : Int32), vI (own_ch pi0), vI (own_ch pi1), vI (own_ch pi2), vI (own_ch pi3), vR b174, vR b191, vI (own_k (3 : Int32) (own_ch pi2) (own_k (2 : Int32) (own_ch pi1) (own_k (1 : Int32) (own_ch pi0) (0 : Int32)))), vR o251]) rfl k) ?_
      have hd269 := own_c46 (own_chl _) hc256
      have hd270 := own_c46n (own_chl _) hc255
      have hd271 := own_c46n (own_chl _) hc254
      have hk272 : (own_k (3 : Int32) (own_ch pi2) (own_k (2 : Int32) (own_ch pi1) (own_k (1 : Int32) (own_ch pi0) (0 : Int32)))) = (1 : Int32) := by simp only [own_k, hd269, hd270, hd271, if_true, if_false, if_pos, if_neg, not_false_eq_true, reduceIte]
      rw [hk272]
      refine og T215 (mkF m 229 #[vI pi0, vI pi1, vI pi2, vI pi3, vI pi4, vI (3 : Int32), vI (own_ch pi0), vI (own_ch pi1), vI (own_ch pi2), vI (own_ch pi3), vR b174, vR b191, vI (1 : Int32), vR o251] [(.ref o251)]) (fun _ k => XS.aload X215.here hx rfl (hb hby at_227) rfl rfl k) ?_
      have hp273 : ∀ c ∈ ([(own_ch pi0)] : List Int32), ¬ c < 0 ∧ ¬ (255 : Int32) < c := by
        intro c hc
        simp only [List.mem_cons, List.not_mem_nil, or_false] at hc
        rcases hc with rfl
        · exact (own_chl _)
      have F274 := (F214.keep K215 all0)
      obtain ⟨cq275, kq275, q275a, q275b, q275c⟩ := isOf hZ215 rfl f259
      obtain ⟨_, _, ⟨T275, L275, k275, n275⟩, -, X275, ⟨Lc275, hQ275, l275, y275, z275⟩, st275⟩ := X215.virtualBack hx (y := y3) (z := y3) hown215 (mvT hZ215 (own_w hw 81)) (mvT hZ215 (own_w hw 37)) (notFace_of_selects (args := #[]) (mvT hZ215 (own_w hw 39))) (mvT hZ215 (own_w hw 39)) (mvT hZ215 (own_w hw 38)) (by decide) (StrChars.Road.lenW (W := 0) hZ215 (own_hln hw) (kI := 4) (own_w hw 7) (cs := ([(own_ch pi0)] : List Int32)) f259 f261 f260 f262 (StrChars.Road.codOf rfl (fun c hc => (hp273 c hc).2)) (own_up _ hp273) (O2.ext F274.2) P5 (lb rfl) (lb rfl) (lb rfl)) q275a q275c (g := (mkF m 229 #[vI pi0, vI pi1, vI pi2, vI pi3, vI pi4, vI (3 : Int32), vI (own_ch pi0), vI (own_ch pi1), vI (own_ch pi2), vI (own_ch pi3), vR b174, vR b191, vI (1 : Int32), vR o251] [(.ref o251)])) rfl (by rw [hml]; rfl) (Steps.refl _) (argsL := []) (rest := []) (lenOf pd_3 rfl) rfl (lb rfl) (hb hby at_229) (fun _ _ => ⟨rfl, rfl, (lb rfl), (lb rfl)⟩)
      dsimp only [Pt.U, Pt.locs, Pt.cells, Pt.slots] at X275 l275 y275 z275 st275 hQ275
      subst l275 y275 z275
      obtain ⟨rfl, rfl, eq275⟩ := hQ275
      have N275 := Fr.app N215 (Fr.nil n0)
      refine ot T275 (mkF m 232 #[vI pi0, vI pi1, vI pi2, vI pi3, vI pi4, vI (3 : Int32), vI (own_ch pi0), vI (own_ch pi1), vI (own_ch pi2), vI (own_ch pi3), vR b174, vR b191, vI (1 : Int32), vR o251] [(.int (1 : Int32))]) st275 ?_
      refine og T275 (mkF m 247 #[vI pi0, vI pi1, vI pi2, vI pi3, vI pi4, vI (3 : Int32), vI (own_ch pi0), vI (own_ch pi1), vI (own_ch pi2), vI (own_ch pi3), vR b174, vR b191, vI (1 : Int32), vR o251] [(.int (0 : Int32)), (.ref o251)]) (fun _ k => XS.iload X275.here hx rfl (hb hby at_232) rfl (XS.icmpYes X275.here hx rfl (pc0 := 234) (pc' := 239) rfl (hb hby at_234) rfl (teq (by decide : (1 : Int32) = (1 : Int32))).1 (by decide) (by decide) (XS.iload X275.here hx rfl (hb hby at_239) rfl (XS.ifNo X275.here hx rfl (hb hby at_241) rfl ((if0 _ _).trans (tlt (by decide : (0 : Int32) < (1 : Int32))).2.2.2) (XS.aload X275.here hx rfl (hb hby at_244) rfl rfl (XS.iconst X275.here hx rfl (hb hby at_246) k)))))) ?_
      obtain ⟨cq276, kq276, q276a, q276b, q276c⟩ := isOf hZ215 eq275 f259
      obtain ⟨_, _, ⟨T276, L276, k276, n276⟩, -, X276, ⟨Lc276, hQ276, l276, y276, z276⟩, st276⟩ := X275.virtualBack hx (y := y15) (z := y15) hown215 (mvT hZ215 (own_w hw 114)) (mvT hZ215 (own_w hw 115)) (notFace_of_selects (args := #[]) (mvT hZ215 (own_w hw 117))) (mvT hZ215 (own_w hw 117)) (mvT hZ215 (own_w hw 116)) (by decide) (StrChars.Road.chN (W := 0) hZ215 (own_hch hw) (kI := 4) (own_w hw 7) (cs := ([(own_ch pi0)] : List Int32)) (i := 0) f259 f261 f260 f262 (StrChars.Road.codOf rfl (fun c hc => (hp273 c hc).2)) (own_up _ hp273) (O2.ext F274.2) P5 (O4.ext F274.2) rG3 (lb rfl) (lb rfl) rfl (lb rfl) (lb rfl)) q276a q276c (g := (mkF m 247 #[vI pi0, vI pi1, vI pi2, vI pi3, vI pi4, vI (3 : Int32), vI (own_ch pi0), vI (own_ch pi1), vI (own_ch pi2), vI (own_ch pi3), vR b174, vR b191, vI (1 : Int32), vR o251] [(.int (0 : Int32)), (.ref o251)])) rfl (by rw [hml]; rfl) (Steps.refl _) (argsL := [(.int (0 : Int32))]) (rest := []) (lenOf pd_0 rfl) rfl (lb rfl) (hb hby at_247) (fun _ _ => ⟨rfl, eq275, (lb rfl), (lb rfl)⟩)
      dsimp only [Pt.U, Pt.locs, Pt.cells, Pt.slots] at X276 l276 y276 z276 st276 hQ276
      subst l276 y276 z276
      obtain ⟨rfl, rfl, eq276⟩ := hQ276
      have N276 := Fr.app N275 (Fr.nil n0)
      refine ot T276 (mkF m 250 #[vI pi0, vI pi1, vI pi2, vI pi3, vI pi4, vI (3 : Int32), vI (own_ch pi0), vI (own_ch pi1), vI (own_ch pi2), vI (own_ch pi3), vR b174, vR b191, vI (1 : Int32), vR o251] [(.int (own_ch pi0))]) st276 ?_
      refine og T276 (mkF m 298 #[vI pi0, vI pi1, vI pi2, vI pi3, vI pi4, vI (3 : Int32), vI (own_ch pi0), vI (own_ch pi1), vI (own_ch pi2), vI (own_ch pi3), vR b174, vR b191, vI (1 : Int32), vR o251] [(.int (3 : Int32)), (.int (1 : Int32))]) (fun _ k => XS.iload X276.here hx rfl (hb hby at_250) rfl (XS.icmpYes X276.here hx rfl (pc0 := 252) (pc' := 257) rfl (hb hby at_252) rfl (teq (rfl : (own_ch pi0) = (own_ch pi0))).1 (by decide) (by decide) (XS.iload X276.here hx rfl (hb hby at_257) rfl (XS.iconst X276.here hx rfl (hb hby at_259) (XS.icmpYes X276.here hx rfl (pc0 := 260) (pc' := 276) rfl (hb hby at_260) rfl (flt (by decide : ¬ ((1 : Int32) < (1 : Int32)))).2.2.2 (by decide) (by decide) (XS.iload X276.here hx rfl (hb hby at_276) rfl (XS.iconst X276.here hx rfl (hb hby at_278) (XS.icmpYes X276.here hx rfl (pc0 := 279) (pc' := 295) rfl (hb hby at_279) rfl (flt (by decide : ¬ ((2 : Int32) < (1 : Int32)))).2.2.2 (by decide) (by decide) (XS.iload X276.here hx rfl (hb hby at_295) rfl (XS.iconst X276.here hx rfl (hb hby at_297) k)))))))))) ?_
      refine og T276 (mkF m 315 #[vI pi0, vI pi1, vI pi2, vI pi3, vI pi4, vI (3 : Int32), vI (own_ch pi0), vI (own_ch pi1), vI (own_ch pi2), vI (own_ch pi3), vR b174, vR b191, vI (1 : Int32), vR o251] [(.int (1 : Int32))]) (fun _ k => XS.icmpYes X276.here hx rfl (pc0 := 298) (pc' := 314) rfl (hb hby at_298) rfl (flt (by decide : ¬ ((3 : Int32) < (1 : Int32)))).2.2.2 (by decide) (by decide) (XS.iconst X276.here hx rfl (hb hby at_314) k)) ?_
      exact own_leaveW (s := s) (vm0 := T215.vm) X276 hS215 (Nat.le_refl _) hZ215 (own_EW hw) eq276 CH268 hh hlk (v := some (.int (nar .boolean (1 : Int32)))) (fun h => by rw [hret] at h; cases h) (lb rfl) (lb rfl) (by rw [eq276]; exact ⟨rfl, N276⟩) (fun fs hr => retN X276 hx (t := .boolean) hret (by simp) (hb hby at_315) hr)
    · obtain ⟨o277, o278, kc279, hc280, hc281, hc282, rfl, Nq215, K215, f283, f284, f285, f286, f287, f288⟩ := hQ215
      have N215 := Fr.app N202 Nq215
      have CH289 := CHr.trans CH207 ch215
      refine ot T215 (mkF m 225 #[vI pi0, vI pi1, vI pi2, vI pi3, vI pi4, vI (3 : Int32), vI (own_ch pi0), vI (own_ch pi1), vI (own_ch pi2), vI (own_ch pi3), vR b174, vR b191, vI (own_k (3 : Int32) (own_ch pi2) (own_k (2 : Int32) (own_ch pi1) (own_k (1 : Int32) (own_ch pi0) (0 : Int32)))), vU] [(.ref o277)]) st215 ?_
      refine og T215 (mkF m 227 #[vI pi0, vI pi1, vI pi2, vI pi3, vI pi4, vI (3 : Int32), vI (own_ch pi0), vI (own_ch pi1), vI (own_ch pi2), vI (own_ch pi3), vR b174, vR b191, vI (own_k (3 : Int32) (own_ch pi2) (own_k (2 : Int32) (own_ch pi1) (own_k (1 : Int32) (own_ch pi0) (0 : Int32)))), vR o277] []) (fun _ k => XS.astore X215.here hx rfl (hb hby at_225) rfl rfl (l' := #[vI pi0, vI pi1, vI pi2, vI pi3, vI pi4, vI (3 : Int32), vI (own_ch pi0), vI (own_ch pi1), vI (own_ch pi2), vI (own_ch pi3), vR b174, vR b191, vI (own_k (3 : Int32) (own_ch pi2) (own_k (2 : Int32) (own_ch pi1) (own_k (1 : Int32) (own_ch pi0) (0 : Int32)))), vR o277]) rfl k) ?_
      have hd290 := own_c46n (own_chl _) hc282
      have hd291 := own_c46n (own_chl _) hc281
      have hd292 := own_c46n (own_chl _) hc280
      have hk293 : (own_k (3 : Int32) (own_ch pi2) (own_k (2 : Int32) (own_ch pi1) (own_k (1 : Int32) (own_ch pi0) (0 : Int32)))) = (0 : Int32) := by simp only [own_k, hd290, hd291, hd292, if_true, if_false, if_pos, if_neg, not_false_eq_true, reduceIte]
      rw [hk293]
      refine og T215 (mkF m 229 #[vI pi0, vI pi1, vI pi2, vI pi3, vI pi4, vI (3 : Int32), vI (own_ch pi0), vI (own_ch pi1), vI (own_ch pi2), vI (own_ch pi3), vR b174, vR b191, vI (0 : Int32), vR o277] [(.ref o277)]) (fun _ k => XS.aload X215.here hx rfl (hb hby at_227) rfl rfl k) ?_
      have hp294 : ∀ c ∈ ([] : List Int32), ¬ c < 0 ∧ ¬ (255 : Int32) < c := by
        intro c hc
        cases hc
      have F295 := (F214.keep K215 all0)
      obtain ⟨cq296, kq296, q296a, q296b, q296c⟩ := isOf hZ215 rfl f285
      obtain ⟨_, _, ⟨T296, L296, k296, n296⟩, -, X296, ⟨Lc296, hQ296, l296, y296, z296⟩, st296⟩ := X215.virtualBack hx (y := y3) (z := y3) hown215 (mvT hZ215 (own_w hw 81)) (mvT hZ215 (own_w hw 37)) (notFace_of_selects (args := #[]) (mvT hZ215 (own_w hw 39))) (mvT hZ215 (own_w hw 39)) (mvT hZ215 (own_w hw 38)) (by decide) (StrChars.Road.lenW (W := 0) hZ215 (own_hln hw) (kI := 4) (own_w hw 7) (cs := ([] : List Int32)) f285 f287 f286 f288 (StrChars.Road.codOf rfl (fun c hc => (hp294 c hc).2)) (own_up _ hp294) (O2.ext F295.2) P5 (lb rfl) (lb rfl) (lb rfl)) q296a q296c (g := (mkF m 229 #[vI pi0, vI pi1, vI pi2, vI pi3, vI pi4, vI (3 : Int32), vI (own_ch pi0), vI (own_ch pi1), vI (own_ch pi2), vI (own_ch pi3), vR b174, vR b191, vI (0 : Int32), vR o277] [(.ref o277)])) rfl (by rw [hml]; rfl) (Steps.refl _) (argsL := []) (rest := []) (lenOf pd_3 rfl) rfl (lb rfl) (hb hby at_229) (fun _ _ => ⟨rfl, rfl, (lb rfl), (lb rfl)⟩)
      dsimp only [Pt.U, Pt.locs, Pt.cells, Pt.slots] at X296 l296 y296 z296 st296 hQ296
      subst l296 y296 z296
      obtain ⟨rfl, rfl, eq296⟩ := hQ296
      have N296 := Fr.app N215 (Fr.nil n0)
      refine ot T296 (mkF m 232 #[vI pi0, vI pi1, vI pi2, vI pi3, vI pi4, vI (3 : Int32), vI (own_ch pi0), vI (own_ch pi1), vI (own_ch pi2), vI (own_ch pi3), vR b174, vR b191, vI (0 : Int32), vR o277] [(.int (0 : Int32))]) st296 ?_
      refine og T296 (mkF m 295 #[vI pi0, vI pi1, vI pi2, vI pi3, vI pi4, vI (3 : Int32), vI (own_ch pi0), vI (own_ch pi1), vI (own_ch pi2), vI (own_ch pi3), vR b174, vR b191, vI (0 : Int32), vR o277] []) (fun _ k => XS.iload X296.here hx rfl (hb hby at_232) rfl (XS.icmpYes X296.here hx rfl (pc0 := 234) (pc' := 239) rfl (hb hby at_234) rfl (teq (by decide : (0 : Int32) = (0 : Int32))).1 (by decide) (by decide) (XS.iload X296.here hx rfl (hb hby at_239) rfl (XS.ifYes X296.here hx rfl (pc0 := 241) (pc' := 257) rfl (hb hby at_241) rfl ((if0 _ _).trans (flt (by decide : ¬ ((0 : Int32) < (0 : Int32)))).2.2.2) (by decide) (by decide) (XS.iload X296.here hx rfl (hb hby at_257) rfl (XS.iconst X296.here hx rfl (hb hby at_259) (XS.icmpYes X296.here hx rfl (pc0 := 260) (pc' := 276) rfl (hb hby at_260) rfl (flt (by decide : ¬ ((1 : Int32) < (0 : Int32)))).2.2.2 (by decide) (by decide) (XS.iload X296.here hx rfl (hb hby at_276) rfl (XS.iconst X296.here hx rfl (hb hby at_278) (XS.icmpYes X296.here hx rfl (pc0 := 279) (pc' := 295) rfl (hb hby at_279) rfl (flt (by decide : ¬ ((2 : Int32) < (0 : Int32)))).2.2.2 (by decide) (by decide) k)))))))))) ?_
      refine og T296 (mkF m 315 #[vI pi0, vI pi1, vI pi2, vI pi3, vI pi4, vI (3 : Int32), vI (own_ch pi0), vI (own_ch pi1), vI (own_ch pi2), vI (own_ch pi3), vR b174, vR b191, vI (0 : Int32), vR o277] [(.int (1 : Int32))]) (fun _ k => XS.iload X296.here hx rfl (hb hby at_295) rfl (XS.iconst X296.here hx rfl (hb hby at_297) (XS.icmpYes X296.here hx rfl (pc0 := 298) (pc' := 314) rfl (hb hby at_298) rfl (flt (by decide : ¬ ((3 : Int32) < (0 : Int32)))).2.2.2 (by decide) (by decide) (XS.iconst X296.here hx rfl (hb hby at_314) k)))) ?_
      exact own_leaveW (s := s) (vm0 := T215.vm) X296 hS215 (Nat.le_refl _) hZ215 (own_EW hw) eq296 CH289 hh hlk (v := some (.int (nar .boolean (1 : Int32)))) (fun h => by rw [hret] at h; cases h) (lb rfl) (lb rfl) (by rw [eq296]; exact ⟨rfl, N296⟩) (fun fs hr => retN X296 hx (t := .boolean) hret (by simp) (hb hby at_315) hr)
  · rw [hm]
    refine og T4 (mkF m 92 #[vI pi0, vI pi1, vI pi2, vI pi3, vI pi4, vI (4 : Int32), vI (own_ch pi0), vI (own_ch pi1), vI (own_ch pi2), vI (own_ch pi3), vU, vU, vU, vU] [(.int (3 : Int32)), (.int (4 : Int32))]) (fun _ k => XS.iload X4.here hx rfl (hb hby at_33) rfl (XS.ifYes X4.here hx rfl (pc0 := 35) (pc' := 46) rfl (hb hby at_35) rfl ((if0 _ _).trans (feq (by decide : ¬ ((4 : Int32) = (0 : Int32)))).2) (by decide) (by decide) (XS.iload X4.here hx rfl (hb hby at_46) rfl (XS.iconst X4.here hx rfl (hb hby at_48) (XS.icmpYes X4.here hx rfl (pc0 := 49) (pc' := 65) rfl (hb hby at_49) rfl (feq (by decide : ¬ ((4 : Int32) = (1 : Int32)))).2 (by decide) (by decide) (XS.iload X4.here hx rfl (hb hby at_65) rfl (XS.iconst X4.here hx rfl (hb hby at_67) (XS.icmpYes X4.here hx rfl (pc0 := 68) (pc' := 89) rfl (hb hby at_68) rfl (feq (by decide : ¬ ((4 : Int32) = (2 : Int32)))).2 (by decide) (by decide) (XS.iload X4.here hx rfl (hb hby at_89) rfl (XS.iconst X4.here hx rfl (hb hby at_91) k)))))))))) ?_
    refine og T4 (mkF m 119 #[vI pi0, vI pi1, vI pi2, vI pi3, vI pi4, vI (4 : Int32), vI (own_ch pi0), vI (own_ch pi1), vI (own_ch pi2), vI (own_ch pi3), vU, vU, vU, vU] [(.int (4 : Int32))]) (fun _ k => XS.icmpYes X4.here hx rfl (pc0 := 92) (pc' := 118) rfl (hb hby at_92) rfl (feq (by decide : ¬ ((4 : Int32) = (3 : Int32)))).2 (by decide) (by decide) (XS.iconst X4.here hx rfl (hb hby at_118) k)) ?_
    obtain ⟨T297, h297, k297, X297, e297, E297, A297, st297⟩ := newP X4 hx hZ (own_w hw 5) eq4 (g := (mkF m 119 #[vI pi0, vI pi1, vI pi2, vI pi3, vI pi4, vI (4 : Int32), vI (own_ch pi0), vI (own_ch pi1), vI (own_ch pi2), vI (own_ch pi3), vU, vU, vU, vU] [(.int (4 : Int32))])) rfl (hb hby at_119) rfl (by decide) (cap := 4) (by decide) (lb rfl) (lb rfl) (lb rfl)
    obtain ⟨b297, gb297⟩ : ∃ z, z = h0.size := ⟨_, rfl⟩
    rw [← gb297] at A297 st297
    have g298 : n0 ≤ b297 := Nat.le_trans (own_osz OLD) (Nat.le_of_eq gb297.symm)
    have z299 : h0.size ≤ b297 := Nat.le_trans (Nat.le_refl _) (Nat.le_of_eq gb297.symm)
    have ch300 := CHr.ext E297 CH0.1
    have CH301 := CHr.trans CH0 ch300
    have V297 : Arv Z h297 b297 k297 .char (4 : Int32) [(.int (0 : Int32)), (.int (0 : Int32)), (.int (0 : Int32)), (.int (0 : Int32))] (.int (0 : Int32)) := (Arv.new A297 (by decide)).pad (pad_rep [] (.int (0 : Int32)) 4)
    refine og T297 (mkF m 121 #[vI pi0, vI pi1, vI pi2, vI pi3, vI pi4, vI (4 : Int32), vI (own_ch pi0), vI (own_ch pi1), vI (own_ch pi2), vI (own_ch pi3), vU, vU, vU, vU] [(.ref b297)]) st297 ?_
    refine og T297 (mkF m 125 #[vI pi0, vI pi1, vI pi2, vI pi3, vI pi4, vI (4 : Int32), vI (own_ch pi0), vI (own_ch pi1), vI (own_ch pi2), vI (own_ch pi3), vU, vU, vU, vU] [(.int (own_ch pi0)), (.int (0 : Int32)), (.ref b297), (.ref b297)]) (fun _ k => XS.dup X297.here hx rfl (hb hby at_121) rfl rfl (XS.iconst X297.here hx rfl (hb hby at_122) (XS.iload X297.here hx rfl (hb hby at_123) rfl k))) ?_
    obtain ⟨cl302, Ar302, qr302, Sr302, Nr302, Hr302, Gr302⟩ := id V297
    obtain ⟨T302, h302, X302, e302, W302, st302⟩ := stC X297 hx hZ e297 Ar302 (j := (0 : Int32)) (inb_of Sr302 ⟨by decide, by decide⟩) (g := (mkF m 125 #[vI pi0, vI pi1, vI pi2, vI pi3, vI pi4, vI (4 : Int32), vI (own_ch pi0), vI (own_ch pi1), vI (own_ch pi2), vI (own_ch pi3), vU, vU, vU, vU] [(.int (own_ch pi0)), (.int (0 : Int32)), (.ref b297), (.ref b297)])) rfl rfl (hb hby at_125)
    have V302 : Arv Z h302 b297 k297 .char (4 : Int32) [(.int (nar .char (own_ch pi0))), (.int (0 : Int32)), (.int (0 : Int32)), (.int (0 : Int32))] (.int (0 : Int32)) := Arv.set Ar302 qr302 Sr302 Nr302 Hr302 Gr302 (fits_nar_char _) W302 0 rfl (lb rfl)
    rw [show nar .char (own_ch pi0) = (own_ch pi0) from (own_ncl (own_chl _))] at V302
    obtain ⟨_, q304, -⟩ := id V297
    have ch303 := CHr.wr W302 (Safe.arr hZ.alike q304 nofun) CH301.1
    have CH305 := CHr.trans CH301 ch303
    have N302 := Fr.snoc X302 N4 g298
    refine og T302 (mkF m 126 #[vI pi0, vI pi1, vI pi2, vI pi3, vI pi4, vI (4 : Int32), vI (own_ch pi0), vI (own_ch pi1), vI (own_ch pi2), vI (own_ch pi3), vU, vU, vU, vU] [(.ref b297)]) st302 ?_
    refine og T302 (mkF m 130 #[vI pi0, vI pi1, vI pi2, vI pi3, vI pi4, vI (4 : Int32), vI (own_ch pi0), vI (own_ch pi1), vI (own_ch pi2), vI (own_ch pi3), vU, vU, vU, vU] [(.int (own_ch pi1)), (.int (1 : Int32)), (.ref b297), (.ref b297)]) (fun _ k => XS.dup X302.here hx rfl (hb hby at_126) rfl rfl (XS.iconst X302.here hx rfl (hb hby at_127) (XS.iload X302.here hx rfl (hb hby at_128) rfl k))) ?_
    obtain ⟨cl306, Ar306, qr306, Sr306, Nr306, Hr306, Gr306⟩ := id V302
    obtain ⟨T306, h306, X306, e306, W306, st306⟩ := stC X302 hx hZ e302 Ar306 (j := (1 : Int32)) (inb_of Sr306 ⟨by decide, by decide⟩) (g := (mkF m 130 #[vI pi0, vI pi1, vI pi2, vI pi3, vI pi4, vI (4 : Int32), vI (own_ch pi0), vI (own_ch pi1), vI (own_ch pi2), vI (own_ch pi3), vU, vU, vU, vU] [(.int (own_ch pi1)), (.int (1 : Int32)), (.ref b297), (.ref b297)])) rfl rfl (hb hby at_130)
    have V306 : Arv Z h306 b297 k297 .char (4 : Int32) [(.int (own_ch pi0)), (.int (nar .char (own_ch pi1))), (.int (0 : Int32)), (.int (0 : Int32))] (.int (0 : Int32)) := Arv.set Ar306 qr306 Sr306 Nr306 Hr306 Gr306 (fits_nar_char _) W306 1 rfl (lb rfl)
    rw [show nar .char (own_ch pi1) = (own_ch pi1) from (own_ncl (own_chl _))] at V306
    obtain ⟨_, q308, -⟩ := id V302
    have ch307 := CHr.wr W306 (Safe.arr hZ.alike q308 nofun) CH305.1
    have CH309 := CHr.trans CH305 ch307
    have N306 := Fr.snoc X306 N302 g298
    refine og T306 (mkF m 131 #[vI pi0, vI pi1, vI pi2, vI pi3, vI pi4, vI (4 : Int32), vI (own_ch pi0), vI (own_ch pi1), vI (own_ch pi2), vI (own_ch pi3), vU, vU, vU, vU] [(.ref b297)]) st306 ?_
    refine og T306 (mkF m 135 #[vI pi0, vI pi1, vI pi2, vI pi3, vI pi4, vI (4 : Int32), vI (own_ch pi0), vI (own_ch pi1), vI (own_ch pi2), vI (own_ch pi3), vU, vU, vU, vU] [(.int (own_ch pi2)), (.int (2 : Int32)), (.ref b297), (.ref b297)]) (fun _ k => XS.dup X306.here hx rfl (hb hby at_131) rfl rfl (XS.iconst X306.here hx rfl (hb hby at_132) (XS.iload X306.here hx rfl (hb hby at_133) rfl k))) ?_
    obtain ⟨cl310, Ar310, qr310, Sr310, Nr310, Hr310, Gr310⟩ := id V306
    obtain ⟨T310, h310, X310, e310, W310, st310⟩ := stC X306 hx hZ e306 Ar310 (j := (2 : Int32)) (inb_of Sr310 ⟨by decide, by decide⟩) (g := (mkF m 135 #[vI pi0, vI pi1, vI pi2, vI pi3, vI pi4, vI (4 : Int32), vI (own_ch pi0), vI (own_ch pi1), vI (own_ch pi2), vI (own_ch pi3), vU, vU, vU, vU] [(.int (own_ch pi2)), (.int (2 : Int32)), (.ref b297), (.ref b297)])) rfl rfl (hb hby at_135)
    have V310 : Arv Z h310 b297 k297 .char (4 : Int32) [(.int (own_ch pi0)), (.int (own_ch pi1)), (.int (nar .char (own_ch pi2))), (.int (0 : Int32))] (.int (0 : Int32)) := Arv.set Ar310 qr310 Sr310 Nr310 Hr310 Gr310 (fits_nar_char _) W310 2 rfl (lb rfl)
    rw [show nar .char (own_ch pi2) = (own_ch pi2) from (own_ncl (own_chl _))] at V310
    obtain ⟨_, q312, -⟩ := id V306
    have ch311 := CHr.wr W310 (Safe.arr hZ.alike q312 nofun) CH309.1
    have CH313 := CHr.trans CH309 ch311
    have N310 := Fr.snoc X310 N306 g298
    refine og T310 (mkF m 136 #[vI pi0, vI pi1, vI pi2, vI pi3, vI pi4, vI (4 : Int32), vI (own_ch pi0), vI (own_ch pi1), vI (own_ch pi2), vI (own_ch pi3), vU, vU, vU, vU] [(.ref b297)]) st310 ?_
    refine og T310 (mkF m 140 #[vI pi0, vI pi1, vI pi2, vI pi3, vI pi4, vI (4 : Int32), vI (own_ch pi0), vI (own_ch pi1), vI (own_ch pi2), vI (own_ch pi3), vU, vU, vU, vU] [(.int (own_ch pi3)), (.int (3 : Int32)), (.ref b297), (.ref b297)]) (fun _ k => XS.dup X310.here hx rfl (hb hby at_136) rfl rfl (XS.iconst X310.here hx rfl (hb hby at_137) (XS.iload X310.here hx rfl (hb hby at_138) rfl k))) ?_
    obtain ⟨cl314, Ar314, qr314, Sr314, Nr314, Hr314, Gr314⟩ := id V310
    obtain ⟨T314, h314, X314, e314, W314, st314⟩ := stC X310 hx hZ e310 Ar314 (j := (3 : Int32)) (inb_of Sr314 ⟨by decide, by decide⟩) (g := (mkF m 140 #[vI pi0, vI pi1, vI pi2, vI pi3, vI pi4, vI (4 : Int32), vI (own_ch pi0), vI (own_ch pi1), vI (own_ch pi2), vI (own_ch pi3), vU, vU, vU, vU] [(.int (own_ch pi3)), (.int (3 : Int32)), (.ref b297), (.ref b297)])) rfl rfl (hb hby at_140)
    have V314 : Arv Z h314 b297 k297 .char (4 : Int32) [(.int (own_ch pi0)), (.int (own_ch pi1)), (.int (own_ch pi2)), (.int (nar .char (own_ch pi3)))] (.int (0 : Int32)) := Arv.set Ar314 qr314 Sr314 Nr314 Hr314 Gr314 (fits_nar_char _) W314 3 rfl (lb rfl)
    rw [show nar .char (own_ch pi3) = (own_ch pi3) from (own_ncl (own_chl _))] at V314
    obtain ⟨_, q316, -⟩ := id V310
    have ch315 := CHr.wr W314 (Safe.arr hZ.alike q316 nofun) CH313.1
    have CH317 := CHr.trans CH313 ch315
    have N314 := Fr.snoc X314 N310 g298
    refine og T314 (mkF m 141 #[vI pi0, vI pi1, vI pi2, vI pi3, vI pi4, vI (4 : Int32), vI (own_ch pi0), vI (own_ch pi1), vI (own_ch pi2), vI (own_ch pi3), vU, vU, vU, vU] [(.ref b297)]) st314 ?_
    refine og T314 (mkF m 143 #[vI pi0, vI pi1, vI pi2, vI pi3, vI pi4, vI (4 : Int32), vI (own_ch pi0), vI (own_ch pi1), vI (own_ch pi2), vI (own_ch pi3), vR b297, vU, vU, vU] []) (fun _ k => XS.astore X314.here hx rfl (hb hby at_141) rfl rfl (l' := #[vI pi0, vI pi1, vI pi2, vI pi3, vI pi4, vI (4 : Int32), vI (own_ch pi0), vI (own_ch pi1), vI (own_ch pi2), vI (own_ch pi3), vR b297, vU, vU, vU]) rfl k) ?_
    obtain ⟨T318, h318, X318, e318, E318, A318, D318, -, st318⟩ := newO X314 hx hZ hown (own_w hw 6) (own_w hw 7) (own_w hw 8) e314 (g := (mkF m 143 #[vI pi0, vI pi1, vI pi2, vI pi3, vI pi4, vI (4 : Int32), vI (own_ch pi0), vI (own_ch pi1), vI (own_ch pi2), vI (own_ch pi3), vR b297, vU, vU, vU] [])) rfl (hb hby at_143) (lb rfl) (lb rfl)
    obtain ⟨b318, gb318⟩ : ∃ z, z = h314.size := ⟨_, rfl⟩
    rw [← gb318] at A318 D318 st318
    have F320 := ((((OLD.ext E297).wr W302 g298).wr W306 g298).wr W310 g298)
    have F321 := (F320.wr W314 g298)
    have g319 : n0 ≤ b318 := Nat.le_trans (own_osz F321) (Nat.le_of_eq gb318.symm)
    have F323 := (Nat.le_trans (Nat.le_trans (Nat.le_trans (Nat.le_trans (Nat.le_refl _) E297.1) (Nat.le_of_eq W302.size.symm)) (Nat.le_of_eq W306.size.symm)) (Nat.le_of_eq W310.size.symm))
    have F324 := (Nat.le_trans F323 (Nat.le_of_eq W314.size.symm))
    have z322 : h0.size ≤ b318 := Nat.le_trans F324 (Nat.le_of_eq gb318.symm)
    have ch325 := CHr.ext E318 CH317.1
    have CH326 := CHr.trans CH317 ch325
    have sf327 := own_safe_new CH317.1 E318 (Nat.le_of_eq gb318.symm)
    refine og T318 (mkF m 146 #[vI pi0, vI pi1, vI pi2, vI pi3, vI pi4, vI (4 : Int32), vI (own_ch pi0), vI (own_ch pi1), vI (own_ch pi2), vI (own_ch pi3), vR b297, vU, vU, vU] [(.ref b318)]) st318 ?_
    refine og T318 (mkF m 149 #[vI pi0, vI pi1, vI pi2, vI pi3, vI pi4, vI (4 : Int32), vI (own_ch pi0), vI (own_ch pi1), vI (own_ch pi2), vI (own_ch pi3), vR b297, vU, vU, vU] [(.ref b297), (.ref b318), (.ref b318)]) (fun _ k => XS.dup X318.here hx rfl (hb hby at_146) rfl rfl (XS.aload X318.here hx rfl (hb hby at_147) rfl rfl k)) ?_
    have F328 := (V314.ext E318)
    have hp329 : ∀ c ∈ ([(own_ch pi0), (own_ch pi1), (own_ch pi2), (own_ch pi3)] : List Int32), ¬ c < 0 ∧ ¬ (255 : Int32) < c := by
      intro c hc
      simp only [List.mem_cons, List.not_mem_nil, or_false] at hc
      rcases hc with rfl | rfl | rfl | rfl
      · exact (own_chl _)
      · exact (own_chl _)
      · exact (own_chl _)
      · exact (own_chl _)
    have F330 := (F321.ext E318)
    obtain ⟨_, _, ⟨T331, L331, k331, n331⟩, -, X331, ⟨Lc331, hQ331, l331, y331, z331⟩, st331⟩ := X318.specialBack hx (y := y2) rfl hown (mvT hZ (own_w hw 9)) (mvT hZ (own_w hw 10)) (mvT hZ (own_w hw 11)) (by decide) (StrChars.Road.backV (W := 1) hZ (own_hws hw) (kI := 4) (own_w hw 7) (cs := ([(own_ch pi0), (own_ch pi1), (own_ch pi2), (own_ch pi3)] : List Int32)) (bs := (([(own_ch pi0), (own_ch pi1), (own_ch pi2), (own_ch pi3)] : List Int32).map (fun c => c.toInt8.toInt32))) (n := 4) g319 (own_osz F330) A318 (D318 (Or.inr (own_w hw 21)) (ty := (.array .byte)) (by decide)) (D318 (Or.inr (own_w hw 22)) (ty := .byte) (by decide)) F328 (O2.ext F330.2) P5 rfl rfl (by decide) (by decide) hp329 rfl (lb rfl) (lb rfl)) (g := (mkF m 149 #[vI pi0, vI pi1, vI pi2, vI pi3, vI pi4, vI (4 : Int32), vI (own_ch pi0), vI (own_ch pi1), vI (own_ch pi2), vI (own_ch pi3), vR b297, vU, vU, vU] [(.ref b297), (.ref b318), (.ref b318)])) rfl (by rw [hml]; rfl) (Steps.refl _) (a := b318) (argsL := [(.ref b297)]) (rest := [(.ref b318)]) (lenOf pd_2 rfl) rfl (lb rfl) (hb hby at_149) (fun _ _ => ⟨rfl, e318, (lb rfl), (lb rfl)⟩)
    dsimp only [Pt.U, Pt.locs, Pt.cells, Pt.slots] at X331 l331 y331 z331 st331 hQ331
    subst l331 y331 z331
    obtain ⟨rfl, Nq331, K331, Ex331, Fc331, t331, kb331, -, lo331, -, Fv331, Av331⟩ := hQ331
    have N331 := Fr.app N314 Nq331
    have g332 : n0 ≤ t331 := Nat.le_trans (own_osz F330) lo331
    have F334 := (Nat.le_trans F324 E318.1)
    have z333 : h0.size ≤ t331 := Nat.le_trans F334 lo331
    have ch335 := CHr.keep K331 (allS sf327 all0) CH326.1
    have CH336 := CHr.trans CH326 ch335
    refine ot T331 (mkF m 152 #[vI pi0, vI pi1, vI pi2, vI pi3, vI pi4, vI (4 : Int32), vI (own_ch pi0), vI (own_ch pi1), vI (own_ch pi2), vI (own_ch pi3), vR b297, vU, vU, vU] [(.ref b318)]) st331 ?_
    refine og T331 (mkF m 166 #[vI pi0, vI pi1, vI pi2, vI pi3, vI pi4, vI (4 : Int32), vI (own_ch pi0), vI (own_ch pi1), vI (own_ch pi2), vI (own_ch pi3), vR b297, vR b318, vI (0 : Int32), vU] [(.int (46 : Int32)), (.int (own_ch pi0))]) (fun _ k => XS.astore X331.here hx rfl (hb hby at_152) rfl rfl (l' := #[vI pi0, vI pi1, vI pi2, vI pi3, vI pi4, vI (4 : Int32), vI (own_ch pi0), vI (own_ch pi1), vI (own_ch pi2), vI (own_ch pi3), vR b297, vR b318, vU, vU]) rfl (XS.iconst X331.here hx rfl (hb hby at_154) (XS.istore X331.here hx rfl (hb hby at_155) rfl (l' := #[vI pi0, vI pi1, vI pi2, vI pi3, vI pi4, vI (4 : Int32), vI (own_ch pi0), vI (own_ch pi1), vI (own_ch pi2), vI (own_ch pi3), vR b297, vR b318, vI (0 : Int32), vU]) rfl (XS.iload X331.here hx rfl (hb hby at_157) rfl (XS.ifNo X331.here hx rfl (hb hby at_159) rfl ((if0 _ _).trans (tlt (by decide : (0 : Int32) < (4 : Int32))).2.2.2) (XS.iload X331.here hx rfl (hb hby at_162) rfl (XS.bipush X331.here hx rfl (hb hby at_164) k))))))) ?_
    have J337 : own_Fin p.tables e below (own_PW s Z own_EL (Qlaw Z pi0 pi1 pi2 pi3 pi4 G1 G3 h0 n0) room_1.cells room_1.slots) T331 (mkF m 172 #[vI pi0, vI pi1, vI pi2, vI pi3, vI pi4, vI (4 : Int32), vI (own_ch pi0), vI (own_ch pi1), vI (own_ch pi2), vI (own_ch pi3), vR b297, vR b318, vI (own_k (1 : Int32) (own_ch pi0) (0 : Int32)), vU] []) → own_Fin p.tables e below (own_PW s Z own_EL (Qlaw Z pi0 pi1 pi2 pi3 pi4 G1 G3 h0 n0) room_1.cells room_1.slots) T331 (mkF m 166 #[vI pi0, vI pi1, vI pi2, vI pi3, vI pi4, vI (4 : Int32), vI (own_ch pi0), vI (own_ch pi1), vI (own_ch pi2), vI (own_ch pi3), vR b297, vR b318, vI (0 : Int32), vU] [(.int (46 : Int32)), (.int (own_ch pi0))]) := by
      intro k0
      by_cases hc338 : (own_ch pi0) = (46 : Int32)
      · refine og T331 (mkF m 172 #[vI pi0, vI pi1, vI pi2, vI pi3, vI pi4, vI (4 : Int32), vI (own_ch pi0), vI (own_ch pi1), vI (own_ch pi2), vI (own_ch pi3), vR b297, vR b318, vI (1 : Int32), vU] []) (fun _ k => XS.icmpNo X331.here hx rfl (hb hby at_166) rfl (teq hc338).2 (XS.iconst X331.here hx rfl (hb hby at_169) (XS.istore X331.here hx rfl (hb hby at_170) rfl (l' := #[vI pi0, vI pi1, vI pi2, vI pi3, vI pi4, vI (4 : Int32), vI (own_ch pi0), vI (own_ch pi1), vI (own_ch pi2), vI (own_ch pi3), vR b297, vR b318, vI (1 : Int32), vU]) rfl k))) ?_
        rw [own_k1 hc338] at k0; exact k0
      · refine og T331 (mkF m 172 #[vI pi0, vI pi1, vI pi2, vI pi3, vI pi4, vI (4 : Int32), vI (own_ch pi0), vI (own_ch pi1), vI (own_ch pi2), vI (own_ch pi3), vR b297, vR b318, vI (0 : Int32), vU] []) (fun _ k => XS.icmpYes X331.here hx rfl (pc0 := 166) (pc' := 172) rfl (hb hby at_166) rfl (feq hc338).2 (by decide) (by decide) k) ?_
        rw [own_k0 hc338] at k0; exact k0
    refine J337 ?_
    refine og T331 (mkF m 182 #[vI pi0, vI pi1, vI pi2, vI pi3, vI pi4, vI (4 : Int32), vI (own_ch pi0), vI (own_ch pi1), vI (own_ch pi2), vI (own_ch pi3), vR b297, vR b318, vI (own_k (1 : Int32) (own_ch pi0) (0 : Int32)), vU] [(.int (46 : Int32)), (.int (own_ch pi1))]) (fun _ k => XS.iload X331.here hx rfl (hb hby at_172) rfl (XS.iconst X331.here hx rfl (hb hby at_174) (XS.icmpNo X331.here hx rfl (hb hby at_175) rfl (tlt (by decide : (1 : Int32) < (4 : Int32))).2.2.2 (XS.iload X331.here hx rfl (hb hby at_178) rfl (XS.bipush X331.here hx rfl (hb hby at_180) k))))) ?_
    have J339 : own_Fin p.tables e below (own_PW s Z own_EL (Qlaw Z pi0 pi1 pi2 pi3 pi4 G1 G3 h0 n0) room_1.cells room_1.slots) T331 (mkF m 188 #[vI pi0, vI pi1, vI pi2, vI pi3, vI pi4, vI (4 : Int32), vI (own_ch pi0), vI (own_ch pi1), vI (own_ch pi2), vI (own_ch pi3), vR b297, vR b318, vI (own_k (2 : Int32) (own_ch pi1) (own_k (1 : Int32) (own_ch pi0) (0 : Int32))), vU] []) → own_Fin p.tables e below (own_PW s Z own_EL (Qlaw Z pi0 pi1 pi2 pi3 pi4 G1 G3 h0 n0) room_1.cells room_1.slots) T331 (mkF m 182 #[vI pi0, vI pi1, vI pi2, vI pi3, vI pi4, vI (4 : Int32), vI (own_ch pi0), vI (own_ch pi1), vI (own_ch pi2), vI (own_ch pi3), vR b297, vR b318, vI (own_k (1 : Int32) (own_ch pi0) (0 : Int32)), vU] [(.int (46 : Int32)), (.int (own_ch pi1))]) := by
      intro k0
      by_cases hc340 : (own_ch pi1) = (46 : Int32)
      · refine og T331 (mkF m 188 #[vI pi0, vI pi1, vI pi2, vI pi3, vI pi4, vI (4 : Int32), vI (own_ch pi0), vI (own_ch pi1), vI (own_ch pi2), vI (own_ch pi3), vR b297, vR b318, vI (2 : Int32), vU] []) (fun _ k => XS.icmpNo X331.here hx rfl (hb hby at_182) rfl (teq hc340).2 (XS.iconst X331.here hx rfl (hb hby at_185) (XS.istore X331.here hx rfl (hb hby at_186) rfl (l' := #[vI pi0, vI pi1, vI pi2, vI pi3, vI pi4, vI (4 : Int32), vI (own_ch pi0), vI (own_ch pi1), vI (own_ch pi2), vI (own_ch pi3), vR b297, vR b318, vI (2 : Int32), vU]) rfl k))) ?_
        rw [own_k1 hc340] at k0; exact k0
      · refine og T331 (mkF m 188 #[vI pi0, vI pi1, vI pi2, vI pi3, vI pi4, vI (4 : Int32), vI (own_ch pi0), vI (own_ch pi1), vI (own_ch pi2), vI (own_ch pi3), vR b297, vR b318, vI (own_k (1 : Int32) (own_ch pi0) (0 : Int32)), vU] []) (fun _ k => XS.icmpYes X331.here hx rfl (pc0 := 182) (pc' := 188) rfl (hb hby at_182) rfl (feq hc340).2 (by decide) (by decide) k) ?_
        rw [own_k0 hc340] at k0; exact k0
    refine J339 ?_
    refine og T331 (mkF m 198 #[vI pi0, vI pi1, vI pi2, vI pi3, vI pi4, vI (4 : Int32), vI (own_ch pi0), vI (own_ch pi1), vI (own_ch pi2), vI (own_ch pi3), vR b297, vR b318, vI (own_k (2 : Int32) (own_ch pi1) (own_k (1 : Int32) (own_ch pi0) (0 : Int32))), vU] [(.int (46 : Int32)), (.int (own_ch pi2))]) (fun _ k => XS.iload X331.here hx rfl (hb hby at_188) rfl (XS.iconst X331.here hx rfl (hb hby at_190) (XS.icmpNo X331.here hx rfl (hb hby at_191) rfl (tlt (by decide : (2 : Int32) < (4 : Int32))).2.2.2 (XS.iload X331.here hx rfl (hb hby at_194) rfl (XS.bipush X331.here hx rfl (hb hby at_196) k))))) ?_
    have J341 : own_Fin p.tables e below (own_PW s Z own_EL (Qlaw Z pi0 pi1 pi2 pi3 pi4 G1 G3 h0 n0) room_1.cells room_1.slots) T331 (mkF m 204 #[vI pi0, vI pi1, vI pi2, vI pi3, vI pi4, vI (4 : Int32), vI (own_ch pi0), vI (own_ch pi1), vI (own_ch pi2), vI (own_ch pi3), vR b297, vR b318, vI (own_k (3 : Int32) (own_ch pi2) (own_k (2 : Int32) (own_ch pi1) (own_k (1 : Int32) (own_ch pi0) (0 : Int32)))), vU] []) → own_Fin p.tables e below (own_PW s Z own_EL (Qlaw Z pi0 pi1 pi2 pi3 pi4 G1 G3 h0 n0) room_1.cells room_1.slots) T331 (mkF m 198 #[vI pi0, vI pi1, vI pi2, vI pi3, vI pi4, vI (4 : Int32), vI (own_ch pi0), vI (own_ch pi1), vI (own_ch pi2), vI (own_ch pi3), vR b297, vR b318, vI (own_k (2 : Int32) (own_ch pi1) (own_k (1 : Int32) (own_ch pi0) (0 : Int32))), vU] [(.int (46 : Int32)), (.int (own_ch pi2))]) := by
      intro k0
      by_cases hc342 : (own_ch pi2) = (46 : Int32)
      · refine og T331 (mkF m 204 #[vI pi0, vI pi1, vI pi2, vI pi3, vI pi4, vI (4 : Int32), vI (own_ch pi0), vI (own_ch pi1), vI (own_ch pi2), vI (own_ch pi3), vR b297, vR b318, vI (3 : Int32), vU] []) (fun _ k => XS.icmpNo X331.here hx rfl (hb hby at_198) rfl (teq hc342).2 (XS.iconst X331.here hx rfl (hb hby at_201) (XS.istore X331.here hx rfl (hb hby at_202) rfl (l' := #[vI pi0, vI pi1, vI pi2, vI pi3, vI pi4, vI (4 : Int32), vI (own_ch pi0), vI (own_ch pi1), vI (own_ch pi2), vI (own_ch pi3), vR b297, vR b318, vI (3 : Int32), vU]) rfl k))) ?_
        rw [own_k1 hc342] at k0; exact k0
      · refine og T331 (mkF m 204 #[vI pi0, vI pi1, vI pi2, vI pi3, vI pi4, vI (4 : Int32), vI (own_ch pi0), vI (own_ch pi1), vI (own_ch pi2), vI (own_ch pi3), vR b297, vR b318, vI (own_k (2 : Int32) (own_ch pi1) (own_k (1 : Int32) (own_ch pi0) (0 : Int32))), vU] []) (fun _ k => XS.icmpYes X331.here hx rfl (pc0 := 198) (pc' := 204) rfl (hb hby at_198) rfl (feq hc342).2 (by decide) (by decide) k) ?_
        rw [own_k0 hc342] at k0; exact k0
    refine J341 ?_
    refine og T331 (mkF m 214 #[vI pi0, vI pi1, vI pi2, vI pi3, vI pi4, vI (4 : Int32), vI (own_ch pi0), vI (own_ch pi1), vI (own_ch pi2), vI (own_ch pi3), vR b297, vR b318, vI (own_k (3 : Int32) (own_ch pi2) (own_k (2 : Int32) (own_ch pi1) (own_k (1 : Int32) (own_ch pi0) (0 : Int32)))), vU] [(.int (46 : Int32)), (.int (own_ch pi3))]) (fun _ k => XS.iload X331.here hx rfl (hb hby at_204) rfl (XS.iconst X331.here hx rfl (hb hby at_206) (XS.icmpNo X331.here hx rfl (hb hby at_207) rfl (tlt (by decide : (3 : Int32) < (4 : Int32))).2.2.2 (XS.iload X331.here hx rfl (hb hby at_210) rfl (XS.bipush X331.here hx rfl (hb hby at_212) k))))) ?_
    have J343 : own_Fin p.tables e below (own_PW s Z own_EL (Qlaw Z pi0 pi1 pi2 pi3 pi4 G1 G3 h0 n0) room_1.cells room_1.slots) T331 (mkF m 220 #[vI pi0, vI pi1, vI pi2, vI pi3, vI pi4, vI (4 : Int32), vI (own_ch pi0), vI (own_ch pi1), vI (own_ch pi2), vI (own_ch pi3), vR b297, vR b318, vI (own_k (4 : Int32) (own_ch pi3) (own_k (3 : Int32) (own_ch pi2) (own_k (2 : Int32) (own_ch pi1) (own_k (1 : Int32) (own_ch pi0) (0 : Int32))))), vU] []) → own_Fin p.tables e below (own_PW s Z own_EL (Qlaw Z pi0 pi1 pi2 pi3 pi4 G1 G3 h0 n0) room_1.cells room_1.slots) T331 (mkF m 214 #[vI pi0, vI pi1, vI pi2, vI pi3, vI pi4, vI (4 : Int32), vI (own_ch pi0), vI (own_ch pi1), vI (own_ch pi2), vI (own_ch pi3), vR b297, vR b318, vI (own_k (3 : Int32) (own_ch pi2) (own_k (2 : Int32) (own_ch pi1) (own_k (1 : Int32) (own_ch pi0) (0 : Int32)))), vU] [(.int (46 : Int32)), (.int (own_ch pi3))]) := by
      intro k0
      by_cases hc344 : (own_ch pi3) = (46 : Int32)
      · refine og T331 (mkF m 220 #[vI pi0, vI pi1, vI pi2, vI pi3, vI pi4, vI (4 : Int32), vI (own_ch pi0), vI (own_ch pi1), vI (own_ch pi2), vI (own_ch pi3), vR b297, vR b318, vI (4 : Int32), vU] []) (fun _ k => XS.icmpNo X331.here hx rfl (hb hby at_214) rfl (teq hc344).2 (XS.iconst X331.here hx rfl (hb hby at_217) (XS.istore X331.here hx rfl (hb hby at_218) rfl (l' := #[vI pi0, vI pi1, vI pi2, vI pi3, vI pi4, vI (4 : Int32), vI (own_ch pi0), vI (own_ch pi1), vI (own_ch pi2), vI (own_ch pi3), vR b297, vR b318, vI (4 : Int32), vU]) rfl k))) ?_
        rw [own_k1 hc344] at k0; exact k0
      · refine og T331 (mkF m 220 #[vI pi0, vI pi1, vI pi2, vI pi3, vI pi4, vI (4 : Int32), vI (own_ch pi0), vI (own_ch pi1), vI (own_ch pi2), vI (own_ch pi3), vR b297, vR b318, vI (own_k (3 : Int32) (own_ch pi2) (own_k (2 : Int32) (own_ch pi1) (own_k (1 : Int32) (own_ch pi0) (0 : Int32)))), vU] []) (fun _ k => XS.icmpYes X331.here hx rfl (pc0 := 214) (pc' := 220) rfl (hb hby at_214) rfl (feq hc344).2 (by decide) (by decide) k) ?_
        rw [own_k0 hc344] at k0; exact k0
    refine J343 ?_
    refine og T331 (mkF m 222 #[vI pi0, vI pi1, vI pi2, vI pi3, vI pi4, vI (4 : Int32), vI (own_ch pi0), vI (own_ch pi1), vI (own_ch pi2), vI (own_ch pi3), vR b297, vR b318, vI (own_k (4 : Int32) (own_ch pi3) (own_k (3 : Int32) (own_ch pi2) (own_k (2 : Int32) (own_ch pi1) (own_k (1 : Int32) (own_ch pi0) (0 : Int32))))), vU] [(.ref b318)]) (fun _ k => XS.aload X331.here hx rfl (hb hby at_220) rfl rfl k) ?_
    have F345 := (F330.keep K331 (allS g319 all0))
    obtain ⟨_, _, ⟨T346, L346, k346, n346⟩, -, X346, hs346, hg346, ⟨Lc346, hQ346, l346, y346, z346, ch346⟩, st346⟩ := callSS X331 hx (y := y13) hown (mvT hZ (own_w hw 27)) (mvT hZ (own_w hw 28)) (mvT hZ (own_w hw 29)) (mvT hZ (own_w hw 30)) (by decide) (own_backSH (W := 0) (rm5_128 l Z a0 hw b318 t331 kb331 ((own_ch pi0)) ((own_ch pi1)) ((own_ch pi2)) ((own_ch pi3)) G1 G3 T331.heap n0 F345 Ex331 Fc331 Fv331 (own_chl _) (own_chl _) (own_chl _) (own_chl _) Av331 O2 P5 O4 rG3) hZ (own_w hw 30) (own_w hw 29) (lb rfl) (lb rfl) (own_EW hw) CH336.1 all0) (g := (mkF m 222 #[vI pi0, vI pi1, vI pi2, vI pi3, vI pi4, vI (4 : Int32), vI (own_ch pi0), vI (own_ch pi1), vI (own_ch pi2), vI (own_ch pi3), vR b297, vR b318, vI (own_k (4 : Int32) (own_ch pi3) (own_k (3 : Int32) (own_ch pi2) (own_k (2 : Int32) (own_ch pi1) (own_k (1 : Int32) (own_ch pi0) (0 : Int32))))), vU] [(.ref b318)])) rfl (by rw [hml]; rfl) (argsL := [(.ref b318)]) (rest := []) (lenOf pd_12 rfl) rfl (lb rfl) (hb hby at_222) (fun _ _ => ⟨rfl, rfl, (lb rfl), (lb rfl)⟩)
    dsimp only [Pt.U, Pt.locs, Pt.cells, Pt.slots] at X346 l346 y346 z346 st346 hQ346 hs346 hg346 ch346
    subst l346 y346 z346
    replace X346 := own_reb X346
    have F347 := (Nat.le_trans (Nat.le_trans (Nat.le_trans (Nat.le_trans hk0 E297.1) (Nat.le_of_eq W302.size.symm)) (Nat.le_of_eq W306.size.symm)) (Nat.le_of_eq W310.size.symm))
    have F348 := (Nat.le_trans (Nat.le_trans (Nat.le_trans F347 (Nat.le_of_eq W314.size.symm)) E318.1) K331.1)
    obtain ⟨hZ346, hS346, hown346⟩ := own_after hZ hS0 rfl F348 hs346 hg346 hown
    rcases hQ346 with hQ346 | hQ346 | hQ346 | hQ346 | hQ346
    · obtain ⟨hc349, rfl, Nq346, eq346⟩ := hQ346
      have N346 := Fr.app N331 Nq346
      rw [eq346] at ch346 hS346
      have CH350 := CHr.trans CH336 ch346
      refine ot T346 (mkF m 225 #[vI pi0, vI pi1, vI pi2, vI pi3, vI pi4, vI (4 : Int32), vI (own_ch pi0), vI (own_ch pi1), vI (own_ch pi2), vI (own_ch pi3), vR b297, vR b318, vI (own_k (4 : Int32) (own_ch pi3) (own_k (3 : Int32) (own_ch pi2) (own_k (2 : Int32) (own_ch pi1) (own_k (1 : Int32) (own_ch pi0) (0 : Int32))))), vU] [(.ref b318)]) st346 ?_
      refine og T346 (mkF m 227 #[vI pi0, vI pi1, vI pi2, vI pi3, vI pi4, vI (4 : Int32), vI (own_ch pi0), vI (own_ch pi1), vI (own_ch pi2), vI (own_ch pi3), vR b297, vR b318, vI (own_k (4 : Int32) (own_ch pi3) (own_k (3 : Int32) (own_ch pi2) (own_k (2 : Int32) (own_ch pi1) (own_k (1 : Int32) (own_ch pi0) (0 : Int32))))), vR b318] []) (fun _ k => XS.astore X346.here hx rfl (hb hby at_225) rfl rfl (l' := #[vI pi0, vI pi1, vI pi2, vI pi3, vI pi4, vI (4 : Int32), vI (own_ch pi0), vI (own_ch pi1), vI (own_ch pi2), vI (own_ch pi3), vR b297, vR b318, vI (own_k (4 : Int32) (own_ch pi3) (own_k (3 : Int32) (own_ch pi2) (own_k (2 : Int32) (own_ch pi1) (own_k (1 : Int32) (own_ch pi0) (0 : Int32))))), vR b318]) rfl k) ?_
      have hd351 := own_c46 (own_chl _) hc349
      have hk352 : (own_k (4 : Int32) (own_ch pi3) (own_k (3 : Int32) (own_ch pi2) (own_k (2 : Int32) (own_ch pi1) (own_k (1 : Int32) (own_ch pi0) (0 : Int32))))) = (4 : Int32) := by simp only [own_k, hd351, if_true, if_false, if_pos, if_neg, not_false_eq_true, reduceIte]
      rw [hk352]
      refine og T346 (mkF m 229 #[vI pi0, vI pi1, vI pi2, vI pi3, vI pi4, vI (4 : Int32), vI (own_ch pi0), vI (own_ch pi1), vI (own_ch pi2), vI (own_ch pi3), vR b297, vR b318, vI (4 : Int32), vR b318] [(.ref b318)]) (fun _ k => XS.aload X346.here hx rfl (hb hby at_227) rfl rfl k) ?_
      obtain ⟨cq353, kq353, q353a, q353b, q353c⟩ := isOf hZ346 eq346 Ex331
      obtain ⟨_, _, ⟨T353, L353, k353, n353⟩, -, X353, ⟨Lc353, hQ353, l353, y353, z353⟩, st353⟩ := X346.virtualBack hx (y := y3) (z := y3) hown346 (mvT hZ346 (own_w hw 81)) (mvT hZ346 (own_w hw 37)) (notFace_of_selects (args := #[]) (mvT hZ346 (own_w hw 39))) (mvT hZ346 (own_w hw 39)) (mvT hZ346 (own_w hw 38)) (by decide) (StrChars.Road.lenW (W := 0) hZ346 (own_hln hw) (kI := 4) (own_w hw 7) (cs := ([(own_ch pi0), (own_ch pi1), (own_ch pi2), (own_ch pi3)] : List Int32)) Ex331 Fv331 Fc331 Av331 (StrChars.Road.codOf rfl (fun c hc => (hp329 c hc).2)) (own_up _ hp329) (O2.ext F345.2) P5 (lb rfl) (lb rfl) (lb rfl)) q353a q353c (g := (mkF m 229 #[vI pi0, vI pi1, vI pi2, vI pi3, vI pi4, vI (4 : Int32), vI (own_ch pi0), vI (own_ch pi1), vI (own_ch pi2), vI (own_ch pi3), vR b297, vR b318, vI (4 : Int32), vR b318] [(.ref b318)])) rfl (by rw [hml]; rfl) (Steps.refl _) (argsL := []) (rest := []) (lenOf pd_3 rfl) rfl (lb rfl) (hb hby at_229) (fun _ _ => ⟨rfl, eq346, (lb rfl), (lb rfl)⟩)
      dsimp only [Pt.U, Pt.locs, Pt.cells, Pt.slots] at X353 l353 y353 z353 st353 hQ353
      subst l353 y353 z353
      obtain ⟨rfl, rfl, eq353⟩ := hQ353
      have N353 := Fr.app N346 (Fr.nil n0)
      refine ot T353 (mkF m 232 #[vI pi0, vI pi1, vI pi2, vI pi3, vI pi4, vI (4 : Int32), vI (own_ch pi0), vI (own_ch pi1), vI (own_ch pi2), vI (own_ch pi3), vR b297, vR b318, vI (4 : Int32), vR b318] [(.int (4 : Int32))]) st353 ?_
      refine og T353 (mkF m 247 #[vI pi0, vI pi1, vI pi2, vI pi3, vI pi4, vI (4 : Int32), vI (own_ch pi0), vI (own_ch pi1), vI (own_ch pi2), vI (own_ch pi3), vR b297, vR b318, vI (4 : Int32), vR b318] [(.int (0 : Int32)), (.ref b318)]) (fun _ k => XS.iload X353.here hx rfl (hb hby at_232) rfl (XS.icmpYes X353.here hx rfl (pc0 := 234) (pc' := 239) rfl (hb hby at_234) rfl (teq (by decide : (4 : Int32) = (4 : Int32))).1 (by decide) (by decide) (XS.iload X353.here hx rfl (hb hby at_239) rfl (XS.ifNo X353.here hx rfl (hb hby at_241) rfl ((if0 _ _).trans (tlt (by decide : (0 : Int32) < (4 : Int32))).2.2.2) (XS.aload X353.here hx rfl (hb hby at_244) rfl rfl (XS.iconst X353.here hx rfl (hb hby at_246) k)))))) ?_
      obtain ⟨cq354, kq354, q354a, q354b, q354c⟩ := isOf hZ346 eq353 Ex331
      obtain ⟨_, _, ⟨T354, L354, k354, n354⟩, -, X354, ⟨Lc354, hQ354, l354, y354, z354⟩, st354⟩ := X353.virtualBack hx (y := y15) (z := y15) hown346 (mvT hZ346 (own_w hw 114)) (mvT hZ346 (own_w hw 115)) (notFace_of_selects (args := #[]) (mvT hZ346 (own_w hw 117))) (mvT hZ346 (own_w hw 117)) (mvT hZ346 (own_w hw 116)) (by decide) (StrChars.Road.chN (W := 0) hZ346 (own_hch hw) (kI := 4) (own_w hw 7) (cs := ([(own_ch pi0), (own_ch pi1), (own_ch pi2), (own_ch pi3)] : List Int32)) (i := 0) Ex331 Fv331 Fc331 Av331 (StrChars.Road.codOf rfl (fun c hc => (hp329 c hc).2)) (own_up _ hp329) (O2.ext F345.2) P5 (O4.ext F345.2) rG3 (lb rfl) (lb rfl) rfl (lb rfl) (lb rfl)) q354a q354c (g := (mkF m 247 #[vI pi0, vI pi1, vI pi2, vI pi3, vI pi4, vI (4 : Int32), vI (own_ch pi0), vI (own_ch pi1), vI (own_ch pi2), vI (own_ch pi3), vR b297, vR b318, vI (4 : Int32), vR b318] [(.int (0 : Int32)), (.ref b318)])) rfl (by rw [hml]; rfl) (Steps.refl _) (argsL := [(.int (0 : Int32))]) (rest := []) (lenOf pd_0 rfl) rfl (lb rfl) (hb hby at_247) (fun _ _ => ⟨rfl, eq353, (lb rfl), (lb rfl)⟩)
      dsimp only [Pt.U, Pt.locs, Pt.cells, Pt.slots] at X354 l354 y354 z354 st354 hQ354
      subst l354 y354 z354
      obtain ⟨rfl, rfl, eq354⟩ := hQ354
      have N354 := Fr.app N353 (Fr.nil n0)
      refine ot T354 (mkF m 250 #[vI pi0, vI pi1, vI pi2, vI pi3, vI pi4, vI (4 : Int32), vI (own_ch pi0), vI (own_ch pi1), vI (own_ch pi2), vI (own_ch pi3), vR b297, vR b318, vI (4 : Int32), vR b318] [(.int (own_ch pi0))]) st354 ?_
      refine og T354 (mkF m 266 #[vI pi0, vI pi1, vI pi2, vI pi3, vI pi4, vI (4 : Int32), vI (own_ch pi0), vI (own_ch pi1), vI (own_ch pi2), vI (own_ch pi3), vR b297, vR b318, vI (4 : Int32), vR b318] [(.int (1 : Int32)), (.ref b318)]) (fun _ k => XS.iload X354.here hx rfl (hb hby at_250) rfl (XS.icmpYes X354.here hx rfl (pc0 := 252) (pc' := 257) rfl (hb hby at_252) rfl (teq (rfl : (own_ch pi0) = (own_ch pi0))).1 (by decide) (by decide) (XS.iload X354.here hx rfl (hb hby at_257) rfl (XS.iconst X354.here hx rfl (hb hby at_259) (XS.icmpNo X354.here hx rfl (hb hby at_260) rfl (tlt (by decide : (1 : Int32) < (4 : Int32))).2.2.2 (XS.aload X354.here hx rfl (hb hby at_263) rfl rfl (XS.iconst X354.here hx rfl (hb hby at_265) k))))))) ?_
      obtain ⟨cq355, kq355, q355a, q355b, q355c⟩ := isOf hZ346 eq354 Ex331
      obtain ⟨_, _, ⟨T355, L355, k355, n355⟩, -, X355, ⟨Lc355, hQ355, l355, y355, z355⟩, st355⟩ := X354.virtualBack hx (y := y15) (z := y15) hown346 (mvT hZ346 (own_w hw 114)) (mvT hZ346 (own_w hw 115)) (notFace_of_selects (args := #[]) (mvT hZ346 (own_w hw 117))) (mvT hZ346 (own_w hw 117)) (mvT hZ346 (own_w hw 116)) (by decide) (StrChars.Road.chN (W := 0) hZ346 (own_hch hw) (kI := 4) (own_w hw 7) (cs := ([(own_ch pi0), (own_ch pi1), (own_ch pi2), (own_ch pi3)] : List Int32)) (i := 1) Ex331 Fv331 Fc331 Av331 (StrChars.Road.codOf rfl (fun c hc => (hp329 c hc).2)) (own_up _ hp329) (O2.ext F345.2) P5 (O4.ext F345.2) rG3 (lb rfl) (lb rfl) rfl (lb rfl) (lb rfl)) q355a q355c (g := (mkF m 266 #[vI pi0, vI pi1, vI pi2, vI pi3, vI pi4, vI (4 : Int32), vI (own_ch pi0), vI (own_ch pi1), vI (own_ch pi2), vI (own_ch pi3), vR b297, vR b318, vI (4 : Int32), vR b318] [(.int (1 : Int32)), (.ref b318)])) rfl (by rw [hml]; rfl) (Steps.refl _) (argsL := [(.int (1 : Int32))]) (rest := []) (lenOf pd_0 rfl) rfl (lb rfl) (hb hby at_266) (fun _ _ => ⟨rfl, eq354, (lb rfl), (lb rfl)⟩)
      dsimp only [Pt.U, Pt.locs, Pt.cells, Pt.slots] at X355 l355 y355 z355 st355 hQ355
      subst l355 y355 z355
      obtain ⟨rfl, rfl, eq355⟩ := hQ355
      have N355 := Fr.app N354 (Fr.nil n0)
      refine ot T355 (mkF m 269 #[vI pi0, vI pi1, vI pi2, vI pi3, vI pi4, vI (4 : Int32), vI (own_ch pi0), vI (own_ch pi1), vI (own_ch pi2), vI (own_ch pi3), vR b297, vR b318, vI (4 : Int32), vR b318] [(.int (own_ch pi1))]) st355 ?_
      refine og T355 (mkF m 285 #[vI pi0, vI pi1, vI pi2, vI pi3, vI pi4, vI (4 : Int32), vI (own_ch pi0), vI (own_ch pi1), vI (own_ch pi2), vI (own_ch pi3), vR b297, vR b318, vI (4 : Int32), vR b318] [(.int (2 : Int32)), (.ref b318)]) (fun _ k => XS.iload X355.here hx rfl (hb hby at_269) rfl (XS.icmpYes X355.here hx rfl (pc0 := 271) (pc' := 276) rfl (hb hby at_271) rfl (teq (rfl : (own_ch pi1) = (own_ch pi1))).1 (by decide) (by decide) (XS.iload X355.here hx rfl (hb hby at_276) rfl (XS.iconst X355.here hx rfl (hb hby at_278) (XS.icmpNo X355.here hx rfl (hb hby at_279) rfl (tlt (by decide : (2 : Int32) < (4 : Int32))).2.2.2 (XS.aload X355.here hx rfl (hb hby at_282) rfl rfl (XS.iconst X355.here hx rfl (hb hby at_284) k))))))) ?_
      obtain ⟨cq356, kq356, q356a, q356b, q356c⟩ := isOf hZ346 eq355 Ex331
      obtain ⟨_, _, ⟨T356, L356, k356, n356⟩, -, X356, ⟨Lc356, hQ356, l356, y356, z356⟩, st356⟩ := X355.virtualBack hx (y := y15) (z := y15) hown346 (mvT hZ346 (own_w hw 114)) (mvT hZ346 (own_w hw 115)) (notFace_of_selects (args := #[]) (mvT hZ346 (own_w hw 117))) (mvT hZ346 (own_w hw 117)) (mvT hZ346 (own_w hw 116)) (by decide) (StrChars.Road.chN (W := 0) hZ346 (own_hch hw) (kI := 4) (own_w hw 7) (cs := ([(own_ch pi0), (own_ch pi1), (own_ch pi2), (own_ch pi3)] : List Int32)) (i := 2) Ex331 Fv331 Fc331 Av331 (StrChars.Road.codOf rfl (fun c hc => (hp329 c hc).2)) (own_up _ hp329) (O2.ext F345.2) P5 (O4.ext F345.2) rG3 (lb rfl) (lb rfl) rfl (lb rfl) (lb rfl)) q356a q356c (g := (mkF m 285 #[vI pi0, vI pi1, vI pi2, vI pi3, vI pi4, vI (4 : Int32), vI (own_ch pi0), vI (own_ch pi1), vI (own_ch pi2), vI (own_ch pi3), vR b297, vR b318, vI (4 : Int32), vR b318] [(.int (2 : Int32)), (.ref b318)])) rfl (by rw [hml]; rfl) (Steps.refl _) (argsL := [(.int (2 : Int32))]) (rest := []) (lenOf pd_0 rfl) rfl (lb rfl) (hb hby at_285) (fun _ _ => ⟨rfl, eq355, (lb rfl), (lb rfl)⟩)
      dsimp only [Pt.U, Pt.locs, Pt.cells, Pt.slots] at X356 l356 y356 z356 st356 hQ356
      subst l356 y356 z356
      obtain ⟨rfl, rfl, eq356⟩ := hQ356
      have N356 := Fr.app N355 (Fr.nil n0)
      refine ot T356 (mkF m 288 #[vI pi0, vI pi1, vI pi2, vI pi3, vI pi4, vI (4 : Int32), vI (own_ch pi0), vI (own_ch pi1), vI (own_ch pi2), vI (own_ch pi3), vR b297, vR b318, vI (4 : Int32), vR b318] [(.int (own_ch pi2))]) st356 ?_
      refine og T356 (mkF m 304 #[vI pi0, vI pi1, vI pi2, vI pi3, vI pi4, vI (4 : Int32), vI (own_ch pi0), vI (own_ch pi1), vI (own_ch pi2), vI (own_ch pi3), vR b297, vR b318, vI (4 : Int32), vR b318] [(.int (3 : Int32)), (.ref b318)]) (fun _ k => XS.iload X356.here hx rfl (hb hby at_288) rfl (XS.icmpYes X356.here hx rfl (pc0 := 290) (pc' := 295) rfl (hb hby at_290) rfl (teq (rfl : (own_ch pi2) = (own_ch pi2))).1 (by decide) (by decide) (XS.iload X356.here hx rfl (hb hby at_295) rfl (XS.iconst X356.here hx rfl (hb hby at_297) (XS.icmpNo X356.here hx rfl (hb hby at_298) rfl (tlt (by decide : (3 : Int32) < (4 : Int32))).2.2.2 (XS.aload X356.here hx rfl (hb hby at_301) rfl rfl (XS.iconst X356.here hx rfl (hb hby at_303) k))))))) ?_
      obtain ⟨cq357, kq357, q357a, q357b, q357c⟩ := isOf hZ346 eq356 Ex331
      obtain ⟨_, _, ⟨T357, L357, k357, n357⟩, -, X357, ⟨Lc357, hQ357, l357, y357, z357⟩, st357⟩ := X356.virtualBack hx (y := y15) (z := y15) hown346 (mvT hZ346 (own_w hw 114)) (mvT hZ346 (own_w hw 115)) (notFace_of_selects (args := #[]) (mvT hZ346 (own_w hw 117))) (mvT hZ346 (own_w hw 117)) (mvT hZ346 (own_w hw 116)) (by decide) (StrChars.Road.chN (W := 0) hZ346 (own_hch hw) (kI := 4) (own_w hw 7) (cs := ([(own_ch pi0), (own_ch pi1), (own_ch pi2), (own_ch pi3)] : List Int32)) (i := 3) Ex331 Fv331 Fc331 Av331 (StrChars.Road.codOf rfl (fun c hc => (hp329 c hc).2)) (own_up _ hp329) (O2.ext F345.2) P5 (O4.ext F345.2) rG3 (lb rfl) (lb rfl) rfl (lb rfl) (lb rfl)) q357a q357c (g := (mkF m 304 #[vI pi0, vI pi1, vI pi2, vI pi3, vI pi4, vI (4 : Int32), vI (own_ch pi0), vI (own_ch pi1), vI (own_ch pi2), vI (own_ch pi3), vR b297, vR b318, vI (4 : Int32), vR b318] [(.int (3 : Int32)), (.ref b318)])) rfl (by rw [hml]; rfl) (Steps.refl _) (argsL := [(.int (3 : Int32))]) (rest := []) (lenOf pd_0 rfl) rfl (lb rfl) (hb hby at_304) (fun _ _ => ⟨rfl, eq356, (lb rfl), (lb rfl)⟩)
      dsimp only [Pt.U, Pt.locs, Pt.cells, Pt.slots] at X357 l357 y357 z357 st357 hQ357
      subst l357 y357 z357
      obtain ⟨rfl, rfl, eq357⟩ := hQ357
      have N357 := Fr.app N356 (Fr.nil n0)
      refine ot T357 (mkF m 307 #[vI pi0, vI pi1, vI pi2, vI pi3, vI pi4, vI (4 : Int32), vI (own_ch pi0), vI (own_ch pi1), vI (own_ch pi2), vI (own_ch pi3), vR b297, vR b318, vI (4 : Int32), vR b318] [(.int (own_ch pi3))]) st357 ?_
      refine og T357 (mkF m 315 #[vI pi0, vI pi1, vI pi2, vI pi3, vI pi4, vI (4 : Int32), vI (own_ch pi0), vI (own_ch pi1), vI (own_ch pi2), vI (own_ch pi3), vR b297, vR b318, vI (4 : Int32), vR b318] [(.int (1 : Int32))]) (fun _ k => XS.iload X357.here hx rfl (hb hby at_307) rfl (XS.icmpYes X357.here hx rfl (pc0 := 309) (pc' := 314) rfl (hb hby at_309) rfl (teq (rfl : (own_ch pi3) = (own_ch pi3))).1 (by decide) (by decide) (XS.iconst X357.here hx rfl (hb hby at_314) k))) ?_
      exact own_leaveW (s := s) (vm0 := T346.vm) X357 hS346 (Nat.le_refl _) hZ346 (own_EW hw) eq357 CH350 hh hlk (v := some (.int (nar .boolean (1 : Int32)))) (fun h => by rw [hret] at h; cases h) (lb rfl) (lb rfl) (by rw [eq357]; exact ⟨rfl, N357⟩) (fun fs hr => retN X357 hx (t := .boolean) hret (by simp) (hb hby at_315) hr)
    · obtain ⟨o358, o359, kc360, hc361, hc362, rfl, Nq346, K346, f363, f364, f365, f366, f367, f368⟩ := hQ346
      have N346 := Fr.app N331 Nq346
      have g369 : n0 ≤ o358 := Nat.le_trans (own_osz F345) f363
      have F371 := (Nat.le_trans F334 K331.1)
      have z370 : h0.size ≤ o358 := Nat.le_trans F371 f363
      have g372 : n0 ≤ o359 := Nat.le_trans (own_osz F345) f364
      have z373 : h0.size ≤ o359 := Nat.le_trans F371 f364
      have CH374 := CHr.trans CH336 ch346
      refine ot T346 (mkF m 225 #[vI pi0, vI pi1, vI pi2, vI pi3, vI pi4, vI (4 : Int32), vI (own_ch pi0), vI (own_ch pi1), vI (own_ch pi2), vI (own_ch pi3), vR b297, vR b318, vI (own_k (4 : Int32) (own_ch pi3) (own_k (3 : Int32) (own_ch pi2) (own_k (2 : Int32) (own_ch pi1) (own_k (1 : Int32) (own_ch pi0) (0 : Int32))))), vU] [(.ref o358)]) st346 ?_
      refine og T346 (mkF m 227 #[vI pi0, vI pi1, vI pi2, vI pi3, vI pi4, vI (4 : Int32), vI (own_ch pi0), vI (own_ch pi1), vI (own_ch pi2), vI (own_ch pi3), vR b297, vR b318, vI (own_k (4 : Int32) (own_ch pi3) (own_k (3 : Int32) (own_ch pi2) (own_k (2 : Int32) (own_ch pi1) (own_k (1 : Int32) (own_ch pi0) (0 : Int32))))), vR o358] []) (fun _ k => XS.astore X346.here hx rfl (hb hby at_225) rfl rfl (l' := #[vI pi0, vI pi1, vI pi2, vI pi3, vI pi4, vI (4 : Int32), vI (own_ch pi0), vI (own_ch pi1), vI (own_ch pi2), vI (own_ch pi3), vR b297, vR b318, vI (own_k (4 : Int32) (own_ch pi3) (own_k (3 : Int32) (own_ch pi2) (own_k (2 : Int32) (own_ch pi1) (own_k (1 : Int32) (own_ch pi0) (0 : Int32))))), vR o358]) rfl k) ?_
      have hd375 := own_c46 (own_chl _) hc362
      have hd376 := own_c46n (own_chl _) hc361
      have hk377 : (own_k (4 : Int32) (own_ch pi3) (own_k (3 : Int32) (own_ch pi2) (own_k (2 : Int32) (own_ch pi1) (own_k (1 : Int32) (own_ch pi0) (0 : Int32))))) = (3 : Int32) := by simp only [own_k, hd375, hd376, if_true, if_false, if_pos, if_neg, not_false_eq_true, reduceIte]
      rw [hk377]
      refine og T346 (mkF m 229 #[vI pi0, vI pi1, vI pi2, vI pi3, vI pi4, vI (4 : Int32), vI (own_ch pi0), vI (own_ch pi1), vI (own_ch pi2), vI (own_ch pi3), vR b297, vR b318, vI (3 : Int32), vR o358] [(.ref o358)]) (fun _ k => XS.aload X346.here hx rfl (hb hby at_227) rfl rfl k) ?_
      have hp378 : ∀ c ∈ ([(own_ch pi0), (own_ch pi1), (own_ch pi2)] : List Int32), ¬ c < 0 ∧ ¬ (255 : Int32) < c := by
        intro c hc
        simp only [List.mem_cons, List.not_mem_nil, or_false] at hc
        rcases hc with rfl | rfl | rfl
        · exact (own_chl _)
        · exact (own_chl _)
        · exact (own_chl _)
      have F379 := (F345.keep K346 all0)
      obtain ⟨cq380, kq380, q380a, q380b, q380c⟩ := isOf hZ346 rfl f365
      obtain ⟨_, _, ⟨T380, L380, k380, n380⟩, -, X380, ⟨Lc380, hQ380, l380, y380, z380⟩, st380⟩ := X346.virtualBack hx (y := y3) (z := y3) hown346 (mvT hZ346 (own_w hw 81)) (mvT hZ346 (own_w hw 37)) (notFace_of_selects (args := #[]) (mvT hZ346 (own_w hw 39))) (mvT hZ346 (own_w hw 39)) (mvT hZ346 (own_w hw 38)) (by decide) (StrChars.Road.lenW (W := 0) hZ346 (own_hln hw) (kI := 4) (own_w hw 7) (cs := ([(own_ch pi0), (own_ch pi1), (own_ch pi2)] : List Int32)) f365 f367 f366 f368 (StrChars.Road.codOf rfl (fun c hc => (hp378 c hc).2)) (own_up _ hp378) (O2.ext F379.2) P5 (lb rfl) (lb rfl) (lb rfl)) q380a q380c (g := (mkF m 229 #[vI pi0, vI pi1, vI pi2, vI pi3, vI pi4, vI (4 : Int32), vI (own_ch pi0), vI (own_ch pi1), vI (own_ch pi2), vI (own_ch pi3), vR b297, vR b318, vI (3 : Int32), vR o358] [(.ref o358)])) rfl (by rw [hml]; rfl) (Steps.refl _) (argsL := []) (rest := []) (lenOf pd_3 rfl) rfl (lb rfl) (hb hby at_229) (fun _ _ => ⟨rfl, rfl, (lb rfl), (lb rfl)⟩)
      dsimp only [Pt.U, Pt.locs, Pt.cells, Pt.slots] at X380 l380 y380 z380 st380 hQ380
      subst l380 y380 z380
      obtain ⟨rfl, rfl, eq380⟩ := hQ380
      have N380 := Fr.app N346 (Fr.nil n0)
      refine ot T380 (mkF m 232 #[vI pi0, vI pi1, vI pi2, vI pi3, vI pi4, vI (4 : Int32), vI (own_ch pi0), vI (own_ch pi1), vI (own_ch pi2), vI (own_ch pi3), vR b297, vR b318, vI (3 : Int32), vR o358] [(.int (3 : Int32))]) st380 ?_
      refine og T380 (mkF m 247 #[vI pi0, vI pi1, vI pi2, vI pi3, vI pi4, vI (4 : Int32), vI (own_ch pi0), vI (own_ch pi1), vI (own_ch pi2), vI (own_ch pi3), vR b297, vR b318, vI (3 : Int32), vR o358] [(.int (0 : Int32)), (.ref o358)]) (fun _ k => XS.iload X380.here hx rfl (hb hby at_232) rfl (XS.icmpYes X380.here hx rfl (pc0 := 234) (pc' := 239) rfl (hb hby at_234) rfl (teq (by decide : (3 : Int32) = (3 : Int32))).1 (by decide) (by decide) (XS.iload X380.here hx rfl (hb hby at_239) rfl (XS.ifNo X380.here hx rfl (hb hby at_241) rfl ((if0 _ _).trans (tlt (by decide : (0 : Int32) < (3 : Int32))).2.2.2) (XS.aload X380.here hx rfl (hb hby at_244) rfl rfl (XS.iconst X380.here hx rfl (hb hby at_246) k)))))) ?_
      obtain ⟨cq381, kq381, q381a, q381b, q381c⟩ := isOf hZ346 eq380 f365
      obtain ⟨_, _, ⟨T381, L381, k381, n381⟩, -, X381, ⟨Lc381, hQ381, l381, y381, z381⟩, st381⟩ := X380.virtualBack hx (y := y15) (z := y15) hown346 (mvT hZ346 (own_w hw 114)) (mvT hZ346 (own_w hw 115)) (notFace_of_selects (args := #[]) (mvT hZ346 (own_w hw 117))) (mvT hZ346 (own_w hw 117)) (mvT hZ346 (own_w hw 116)) (by decide) (StrChars.Road.chN (W := 0) hZ346 (own_hch hw) (kI := 4) (own_w hw 7) (cs := ([(own_ch pi0), (own_ch pi1), (own_ch pi2)] : List Int32)) (i := 0) f365 f367 f366 f368 (StrChars.Road.codOf rfl (fun c hc => (hp378 c hc).2)) (own_up _ hp378) (O2.ext F379.2) P5 (O4.ext F379.2) rG3 (lb rfl) (lb rfl) rfl (lb rfl) (lb rfl)) q381a q381c (g := (mkF m 247 #[vI pi0, vI pi1, vI pi2, vI pi3, vI pi4, vI (4 : Int32), vI (own_ch pi0), vI (own_ch pi1), vI (own_ch pi2), vI (own_ch pi3), vR b297, vR b318, vI (3 : Int32), vR o358] [(.int (0 : Int32)), (.ref o358)])) rfl (by rw [hml]; rfl) (Steps.refl _) (argsL := [(.int (0 : Int32))]) (rest := []) (lenOf pd_0 rfl) rfl (lb rfl) (hb hby at_247) (fun _ _ => ⟨rfl, eq380, (lb rfl), (lb rfl)⟩)
      dsimp only [Pt.U, Pt.locs, Pt.cells, Pt.slots] at X381 l381 y381 z381 st381 hQ381
      subst l381 y381 z381
      obtain ⟨rfl, rfl, eq381⟩ := hQ381
      have N381 := Fr.app N380 (Fr.nil n0)
      refine ot T381 (mkF m 250 #[vI pi0, vI pi1, vI pi2, vI pi3, vI pi4, vI (4 : Int32), vI (own_ch pi0), vI (own_ch pi1), vI (own_ch pi2), vI (own_ch pi3), vR b297, vR b318, vI (3 : Int32), vR o358] [(.int (own_ch pi0))]) st381 ?_
      refine og T381 (mkF m 266 #[vI pi0, vI pi1, vI pi2, vI pi3, vI pi4, vI (4 : Int32), vI (own_ch pi0), vI (own_ch pi1), vI (own_ch pi2), vI (own_ch pi3), vR b297, vR b318, vI (3 : Int32), vR o358] [(.int (1 : Int32)), (.ref o358)]) (fun _ k => XS.iload X381.here hx rfl (hb hby at_250) rfl (XS.icmpYes X381.here hx rfl (pc0 := 252) (pc' := 257) rfl (hb hby at_252) rfl (teq (rfl : (own_ch pi0) = (own_ch pi0))).1 (by decide) (by decide) (XS.iload X381.here hx rfl (hb hby at_257) rfl (XS.iconst X381.here hx rfl (hb hby at_259) (XS.icmpNo X381.here hx rfl (hb hby at_260) rfl (tlt (by decide : (1 : Int32) < (3 : Int32))).2.2.2 (XS.aload X381.here hx rfl (hb hby at_263) rfl rfl (XS.iconst X381.here hx rfl (hb hby at_265) k))))))) ?_
      obtain ⟨cq382, kq382, q382a, q382b, q382c⟩ := isOf hZ346 eq381 f365
      obtain ⟨_, _, ⟨T382, L382, k382, n382⟩, -, X382, ⟨Lc382, hQ382, l382, y382, z382⟩, st382⟩ := X381.virtualBack hx (y := y15) (z := y15) hown346 (mvT hZ346 (own_w hw 114)) (mvT hZ346 (own_w hw 115)) (notFace_of_selects (args := #[]) (mvT hZ346 (own_w hw 117))) (mvT hZ346 (own_w hw 117)) (mvT hZ346 (own_w hw 116)) (by decide) (StrChars.Road.chN (W := 0) hZ346 (own_hch hw) (kI := 4) (own_w hw 7) (cs := ([(own_ch pi0), (own_ch pi1), (own_ch pi2)] : List Int32)) (i := 1) f365 f367 f366 f368 (StrChars.Road.codOf rfl (fun c hc => (hp378 c hc).2)) (own_up _ hp378) (O2.ext F379.2) P5 (O4.ext F379.2) rG3 (lb rfl) (lb rfl) rfl (lb rfl) (lb rfl)) q382a q382c (g := (mkF m 266 #[vI pi0, vI pi1, vI pi2, vI pi3, vI pi4, vI (4 : Int32), vI (own_ch pi0), vI (own_ch pi1), vI (own_ch pi2), vI (own_ch pi3), vR b297, vR b318, vI (3 : Int32), vR o358] [(.int (1 : Int32)), (.ref o358)])) rfl (by rw [hml]; rfl) (Steps.refl _) (argsL := [(.int (1 : Int32))]) (rest := []) (lenOf pd_0 rfl) rfl (lb rfl) (hb hby at_266) (fun _ _ => ⟨rfl, eq381, (lb rfl), (lb rfl)⟩)
      dsimp only [Pt.U, Pt.locs, Pt.cells, Pt.slots] at X382 l382 y382 z382 st382 hQ382
      subst l382 y382 z382
      obtain ⟨rfl, rfl, eq382⟩ := hQ382
      have N382 := Fr.app N381 (Fr.nil n0)
      refine ot T382 (mkF m 269 #[vI pi0, vI pi1, vI pi2, vI pi3, vI pi4, vI (4 : Int32), vI (own_ch pi0), vI (own_ch pi1), vI (own_ch pi2), vI (own_ch pi3), vR b297, vR b318, vI (3 : Int32), vR o358] [(.int (own_ch pi1))]) st382 ?_
      refine og T382 (mkF m 285 #[vI pi0, vI pi1, vI pi2, vI pi3, vI pi4, vI (4 : Int32), vI (own_ch pi0), vI (own_ch pi1), vI (own_ch pi2), vI (own_ch pi3), vR b297, vR b318, vI (3 : Int32), vR o358] [(.int (2 : Int32)), (.ref o358)]) (fun _ k => XS.iload X382.here hx rfl (hb hby at_269) rfl (XS.icmpYes X382.here hx rfl (pc0 := 271) (pc' := 276) rfl (hb hby at_271) rfl (teq (rfl : (own_ch pi1) = (own_ch pi1))).1 (by decide) (by decide) (XS.iload X382.here hx rfl (hb hby at_276) rfl (XS.iconst X382.here hx rfl (hb hby at_278) (XS.icmpNo X382.here hx rfl (hb hby at_279) rfl (tlt (by decide : (2 : Int32) < (3 : Int32))).2.2.2 (XS.aload X382.here hx rfl (hb hby at_282) rfl rfl (XS.iconst X382.here hx rfl (hb hby at_284) k))))))) ?_
      obtain ⟨cq383, kq383, q383a, q383b, q383c⟩ := isOf hZ346 eq382 f365
      obtain ⟨_, _, ⟨T383, L383, k383, n383⟩, -, X383, ⟨Lc383, hQ383, l383, y383, z383⟩, st383⟩ := X382.virtualBack hx (y := y15) (z := y15) hown346 (mvT hZ346 (own_w hw 114)) (mvT hZ346 (own_w hw 115)) (notFace_of_selects (args := #[]) (mvT hZ346 (own_w hw 117))) (mvT hZ346 (own_w hw 117)) (mvT hZ346 (own_w hw 116)) (by decide) (StrChars.Road.chN (W := 0) hZ346 (own_hch hw) (kI := 4) (own_w hw 7) (cs := ([(own_ch pi0), (own_ch pi1), (own_ch pi2)] : List Int32)) (i := 2) f365 f367 f366 f368 (StrChars.Road.codOf rfl (fun c hc => (hp378 c hc).2)) (own_up _ hp378) (O2.ext F379.2) P5 (O4.ext F379.2) rG3 (lb rfl) (lb rfl) rfl (lb rfl) (lb rfl)) q383a q383c (g := (mkF m 285 #[vI pi0, vI pi1, vI pi2, vI pi3, vI pi4, vI (4 : Int32), vI (own_ch pi0), vI (own_ch pi1), vI (own_ch pi2), vI (own_ch pi3), vR b297, vR b318, vI (3 : Int32), vR o358] [(.int (2 : Int32)), (.ref o358)])) rfl (by rw [hml]; rfl) (Steps.refl _) (argsL := [(.int (2 : Int32))]) (rest := []) (lenOf pd_0 rfl) rfl (lb rfl) (hb hby at_285) (fun _ _ => ⟨rfl, eq382, (lb rfl), (lb rfl)⟩)
      dsimp only [Pt.U, Pt.locs, Pt.cells, Pt.slots] at X383 l383 y383 z383 st383 hQ383
      subst l383 y383 z383
      obtain ⟨rfl, rfl, eq383⟩ := hQ383
      have N383 := Fr.app N382 (Fr.nil n0)
      refine ot T383 (mkF m 288 #[vI pi0, vI pi1, vI pi2, vI pi3, vI pi4, vI (4 : Int32), vI (own_ch pi0), vI (own_ch pi1), vI (own_ch pi2), vI (own_ch pi3), vR b297, vR b318, vI (3 : Int32), vR o358] [(.int (own_ch pi2))]) st383 ?_
      refine og T383 (mkF m 315 #[vI pi0, vI pi1, vI pi2, vI pi3, vI pi4, vI (4 : Int32), vI (own_ch pi0), vI (own_ch pi1), vI (own_ch pi2), vI (own_ch pi3), vR b297, vR b318, vI (3 : Int32), vR o358] [(.int (1 : Int32))]) (fun _ k => XS.iload X383.here hx rfl (hb hby at_288) rfl (XS.icmpYes X383.here hx rfl (pc0 := 290) (pc' := 295) rfl (hb hby at_290) rfl (teq (rfl : (own_ch pi2) = (own_ch pi2))).1 (by decide) (by decide) (XS.iload X383.here hx rfl (hb hby at_295) rfl (XS.iconst X383.here hx rfl (hb hby at_297) (XS.icmpYes X383.here hx rfl (pc0 := 298) (pc' := 314) rfl (hb hby at_298) rfl (flt (by decide : ¬ ((3 : Int32) < (3 : Int32)))).2.2.2 (by decide) (by decide) (XS.iconst X383.here hx rfl (hb hby at_314) k)))))) ?_
      exact own_leaveW (s := s) (vm0 := T346.vm) X383 hS346 (Nat.le_refl _) hZ346 (own_EW hw) eq383 CH374 hh hlk (v := some (.int (nar .boolean (1 : Int32)))) (fun h => by rw [hret] at h; cases h) (lb rfl) (lb rfl) (by rw [eq383]; exact ⟨rfl, N383⟩) (fun fs hr => retN X383 hx (t := .boolean) hret (by simp) (hb hby at_315) hr)
    · obtain ⟨o384, o385, kc386, hc387, hc388, hc389, rfl, Nq346, K346, f390, f391, f392, f393, f394, f395⟩ := hQ346
      have N346 := Fr.app N331 Nq346
      have g396 : n0 ≤ o384 := Nat.le_trans (own_osz F345) f390
      have F398 := (Nat.le_trans F334 K331.1)
      have z397 : h0.size ≤ o384 := Nat.le_trans F398 f390
      have g399 : n0 ≤ o385 := Nat.le_trans (own_osz F345) f391
      have z400 : h0.size ≤ o385 := Nat.le_trans F398 f391
      have CH401 := CHr.trans CH336 ch346
      refine ot T346 (mkF m 225 #[vI pi0, vI pi1, vI pi2, vI pi3, vI pi4, vI (4 : Int32), vI (own_ch pi0), vI (own_ch pi1), vI (own_ch pi2), vI (own_ch pi3), vR b297, vR b318, vI (own_k (4 : Int32) (own_ch pi3) (own_k (3 : Int32) (own_ch pi2) (own_k (2 : Int32) (own_ch pi1) (own_k (1 : Int32) (own_ch pi0) (0 : Int32))))), vU] [(.ref o384)]) st346 ?_
      refine og T346 (mkF m 227 #[vI pi0, vI pi1, vI pi2, vI pi3, vI pi4, vI (4 : Int32), vI (own_ch pi0), vI (own_ch pi1), vI (own_ch pi2), vI (own_ch pi3), vR b297, vR b318, vI (own_k (4 : Int32) (own_ch pi3) (own_k (3 : Int32) (own_ch pi2) (own_k (2 : Int32) (own_ch pi1) (own_k (1 : Int32) (own_ch pi0) (0 : Int32))))), vR o384] []) (fun _ k => XS.astore X346.here hx rfl (hb hby at_225) rfl rfl (l' := #[vI pi0, vI pi1, vI pi2, vI pi3, vI pi4, vI (4 : Int32), vI (own_ch pi0), vI (own_ch pi1), vI (own_ch pi2), vI (own_ch pi3), vR b297, vR b318, vI (own_k (4 : Int32) (own_ch pi3) (own_k (3 : Int32) (own_ch pi2) (own_k (2 : Int32) (own_ch pi1) (own_k (1 : Int32) (own_ch pi0) (0 : Int32))))), vR o384]) rfl k) ?_
      have hd402 := own_c46 (own_chl _) hc389
      have hd403 := own_c46n (own_chl _) hc388
      have hd404 := own_c46n (own_chl _) hc387
      have hk405 : (own_k (4 : Int32) (own_ch pi3) (own_k (3 : Int32) (own_ch pi2) (own_k (2 : Int32) (own_ch pi1) (own_k (1 : Int32) (own_ch pi0) (0 : Int32))))) = (2 : Int32) := by simp only [own_k, hd402, hd403, hd404, if_true, if_false, if_pos, if_neg, not_false_eq_true, reduceIte]
      rw [hk405]
      refine og T346 (mkF m 229 #[vI pi0, vI pi1, vI pi2, vI pi3, vI pi4, vI (4 : Int32), vI (own_ch pi0), vI (own_ch pi1), vI (own_ch pi2), vI (own_ch pi3), vR b297, vR b318, vI (2 : Int32), vR o384] [(.ref o384)]) (fun _ k => XS.aload X346.here hx rfl (hb hby at_227) rfl rfl k) ?_
      have hp406 : ∀ c ∈ ([(own_ch pi0), (own_ch pi1)] : List Int32), ¬ c < 0 ∧ ¬ (255 : Int32) < c := by
        intro c hc
        simp only [List.mem_cons, List.not_mem_nil, or_false] at hc
        rcases hc with rfl | rfl
        · exact (own_chl _)
        · exact (own_chl _)
      have F407 := (F345.keep K346 all0)
      obtain ⟨cq408, kq408, q408a, q408b, q408c⟩ := isOf hZ346 rfl f392
      obtain ⟨_, _, ⟨T408, L408, k408, n408⟩, -, X408, ⟨Lc408, hQ408, l408, y408, z408⟩, st408⟩ := X346.virtualBack hx (y := y3) (z := y3) hown346 (mvT hZ346 (own_w hw 81)) (mvT hZ346 (own_w hw 37)) (notFace_of_selects (args := #[]) (mvT hZ346 (own_w hw 39))) (mvT hZ346 (own_w hw 39)) (mvT hZ346 (own_w hw 38)) (by decide) (StrChars.Road.lenW (W := 0) hZ346 (own_hln hw) (kI := 4) (own_w hw 7) (cs := ([(own_ch pi0), (own_ch pi1)] : List Int32)) f392 f394 f393 f395 (StrChars.Road.codOf rfl (fun c hc => (hp406 c hc).2)) (own_up _ hp406) (O2.ext F407.2) P5 (lb rfl) (lb rfl) (lb rfl)) q408a q408c (g := (mkF m 229 #[vI pi0, vI pi1, vI pi2, vI pi3, vI pi4, vI (4 : Int32), vI (own_ch pi0), vI (own_ch pi1), vI (own_ch pi2), vI (own_ch pi3), vR b297, vR b318, vI (2 : Int32), vR o384] [(.ref o384)])) rfl (by rw [hml]; rfl) (Steps.refl _) (argsL := []) (rest := []) (lenOf pd_3 rfl) rfl (lb rfl) (hb hby at_229) (fun _ _ => ⟨rfl, rfl, (lb rfl), (lb rfl)⟩)
      dsimp only [Pt.U, Pt.locs, Pt.cells, Pt.slots] at X408 l408 y408 z408 st408 hQ408
      subst l408 y408 z408
      obtain ⟨rfl, rfl, eq408⟩ := hQ408
      have N408 := Fr.app N346 (Fr.nil n0)
      refine ot T408 (mkF m 232 #[vI pi0, vI pi1, vI pi2, vI pi3, vI pi4, vI (4 : Int32), vI (own_ch pi0), vI (own_ch pi1), vI (own_ch pi2), vI (own_ch pi3), vR b297, vR b318, vI (2 : Int32), vR o384] [(.int (2 : Int32))]) st408 ?_
      refine og T408 (mkF m 247 #[vI pi0, vI pi1, vI pi2, vI pi3, vI pi4, vI (4 : Int32), vI (own_ch pi0), vI (own_ch pi1), vI (own_ch pi2), vI (own_ch pi3), vR b297, vR b318, vI (2 : Int32), vR o384] [(.int (0 : Int32)), (.ref o384)]) (fun _ k => XS.iload X408.here hx rfl (hb hby at_232) rfl (XS.icmpYes X408.here hx rfl (pc0 := 234) (pc' := 239) rfl (hb hby at_234) rfl (teq (by decide : (2 : Int32) = (2 : Int32))).1 (by decide) (by decide) (XS.iload X408.here hx rfl (hb hby at_239) rfl (XS.ifNo X408.here hx rfl (hb hby at_241) rfl ((if0 _ _).trans (tlt (by decide : (0 : Int32) < (2 : Int32))).2.2.2) (XS.aload X408.here hx rfl (hb hby at_244) rfl rfl (XS.iconst X408.here hx rfl (hb hby at_246) k)))))) ?_
      obtain ⟨cq409, kq409, q409a, q409b, q409c⟩ := isOf hZ346 eq408 f392
      obtain ⟨_, _, ⟨T409, L409, k409, n409⟩, -, X409, ⟨Lc409, hQ409, l409, y409, z409⟩, st409⟩ := X408.virtualBack hx (y := y15) (z := y15) hown346 (mvT hZ346 (own_w hw 114)) (mvT hZ346 (own_w hw 115)) (notFace_of_selects (args := #[]) (mvT hZ346 (own_w hw 117))) (mvT hZ346 (own_w hw 117)) (mvT hZ346 (own_w hw 116)) (by decide) (StrChars.Road.chN (W := 0) hZ346 (own_hch hw) (kI := 4) (own_w hw 7) (cs := ([(own_ch pi0), (own_ch pi1)] : List Int32)) (i := 0) f392 f394 f393 f395 (StrChars.Road.codOf rfl (fun c hc => (hp406 c hc).2)) (own_up _ hp406) (O2.ext F407.2) P5 (O4.ext F407.2) rG3 (lb rfl) (lb rfl) rfl (lb rfl) (lb rfl)) q409a q409c (g := (mkF m 247 #[vI pi0, vI pi1, vI pi2, vI pi3, vI pi4, vI (4 : Int32), vI (own_ch pi0), vI (own_ch pi1), vI (own_ch pi2), vI (own_ch pi3), vR b297, vR b318, vI (2 : Int32), vR o384] [(.int (0 : Int32)), (.ref o384)])) rfl (by rw [hml]; rfl) (Steps.refl _) (argsL := [(.int (0 : Int32))]) (rest := []) (lenOf pd_0 rfl) rfl (lb rfl) (hb hby at_247) (fun _ _ => ⟨rfl, eq408, (lb rfl), (lb rfl)⟩)
      dsimp only [Pt.U, Pt.locs, Pt.cells, Pt.slots] at X409 l409 y409 z409 st409 hQ409
      subst l409 y409 z409
      obtain ⟨rfl, rfl, eq409⟩ := hQ409
      have N409 := Fr.app N408 (Fr.nil n0)
      refine ot T409 (mkF m 250 #[vI pi0, vI pi1, vI pi2, vI pi3, vI pi4, vI (4 : Int32), vI (own_ch pi0), vI (own_ch pi1), vI (own_ch pi2), vI (own_ch pi3), vR b297, vR b318, vI (2 : Int32), vR o384] [(.int (own_ch pi0))]) st409 ?_
      refine og T409 (mkF m 266 #[vI pi0, vI pi1, vI pi2, vI pi3, vI pi4, vI (4 : Int32), vI (own_ch pi0), vI (own_ch pi1), vI (own_ch pi2), vI (own_ch pi3), vR b297, vR b318, vI (2 : Int32), vR o384] [(.int (1 : Int32)), (.ref o384)]) (fun _ k => XS.iload X409.here hx rfl (hb hby at_250) rfl (XS.icmpYes X409.here hx rfl (pc0 := 252) (pc' := 257) rfl (hb hby at_252) rfl (teq (rfl : (own_ch pi0) = (own_ch pi0))).1 (by decide) (by decide) (XS.iload X409.here hx rfl (hb hby at_257) rfl (XS.iconst X409.here hx rfl (hb hby at_259) (XS.icmpNo X409.here hx rfl (hb hby at_260) rfl (tlt (by decide : (1 : Int32) < (2 : Int32))).2.2.2 (XS.aload X409.here hx rfl (hb hby at_263) rfl rfl (XS.iconst X409.here hx rfl (hb hby at_265) k))))))) ?_
      obtain ⟨cq410, kq410, q410a, q410b, q410c⟩ := isOf hZ346 eq409 f392
      obtain ⟨_, _, ⟨T410, L410, k410, n410⟩, -, X410, ⟨Lc410, hQ410, l410, y410, z410⟩, st410⟩ := X409.virtualBack hx (y := y15) (z := y15) hown346 (mvT hZ346 (own_w hw 114)) (mvT hZ346 (own_w hw 115)) (notFace_of_selects (args := #[]) (mvT hZ346 (own_w hw 117))) (mvT hZ346 (own_w hw 117)) (mvT hZ346 (own_w hw 116)) (by decide) (StrChars.Road.chN (W := 0) hZ346 (own_hch hw) (kI := 4) (own_w hw 7) (cs := ([(own_ch pi0), (own_ch pi1)] : List Int32)) (i := 1) f392 f394 f393 f395 (StrChars.Road.codOf rfl (fun c hc => (hp406 c hc).2)) (own_up _ hp406) (O2.ext F407.2) P5 (O4.ext F407.2) rG3 (lb rfl) (lb rfl) rfl (lb rfl) (lb rfl)) q410a q410c (g := (mkF m 266 #[vI pi0, vI pi1, vI pi2, vI pi3, vI pi4, vI (4 : Int32), vI (own_ch pi0), vI (own_ch pi1), vI (own_ch pi2), vI (own_ch pi3), vR b297, vR b318, vI (2 : Int32), vR o384] [(.int (1 : Int32)), (.ref o384)])) rfl (by rw [hml]; rfl) (Steps.refl _) (argsL := [(.int (1 : Int32))]) (rest := []) (lenOf pd_0 rfl) rfl (lb rfl) (hb hby at_266) (fun _ _ => ⟨rfl, eq409, (lb rfl), (lb rfl)⟩)
      dsimp only [Pt.U, Pt.locs, Pt.cells, Pt.slots] at X410 l410 y410 z410 st410 hQ410
      subst l410 y410 z410
      obtain ⟨rfl, rfl, eq410⟩ := hQ410
      have N410 := Fr.app N409 (Fr.nil n0)
      refine ot T410 (mkF m 269 #[vI pi0, vI pi1, vI pi2, vI pi3, vI pi4, vI (4 : Int32), vI (own_ch pi0), vI (own_ch pi1), vI (own_ch pi2), vI (own_ch pi3), vR b297, vR b318, vI (2 : Int32), vR o384] [(.int (own_ch pi1))]) st410 ?_
      refine og T410 (mkF m 315 #[vI pi0, vI pi1, vI pi2, vI pi3, vI pi4, vI (4 : Int32), vI (own_ch pi0), vI (own_ch pi1), vI (own_ch pi2), vI (own_ch pi3), vR b297, vR b318, vI (2 : Int32), vR o384] [(.int (1 : Int32))]) (fun _ k => XS.iload X410.here hx rfl (hb hby at_269) rfl (XS.icmpYes X410.here hx rfl (pc0 := 271) (pc' := 276) rfl (hb hby at_271) rfl (teq (rfl : (own_ch pi1) = (own_ch pi1))).1 (by decide) (by decide) (XS.iload X410.here hx rfl (hb hby at_276) rfl (XS.iconst X410.here hx rfl (hb hby at_278) (XS.icmpYes X410.here hx rfl (pc0 := 279) (pc' := 295) rfl (hb hby at_279) rfl (flt (by decide : ¬ ((2 : Int32) < (2 : Int32)))).2.2.2 (by decide) (by decide) (XS.iload X410.here hx rfl (hb hby at_295) rfl (XS.iconst X410.here hx rfl (hb hby at_297) (XS.icmpYes X410.here hx rfl (pc0 := 298) (pc' := 314) rfl (hb hby at_298) rfl (flt (by decide : ¬ ((3 : Int32) < (2 : Int32)))).2.2.2 (by decide) (by decide) (XS.iconst X410.here hx rfl (hb hby at_314) k))))))))) ?_
      exact own_leaveW (s := s) (vm0 := T346.vm) X410 hS346 (Nat.le_refl _) hZ346 (own_EW hw) eq410 CH401 hh hlk (v := some (.int (nar .boolean (1 : Int32)))) (fun h => by rw [hret] at h; cases h) (lb rfl) (lb rfl) (by rw [eq410]; exact ⟨rfl, N410⟩) (fun fs hr => retN X410 hx (t := .boolean) hret (by simp) (hb hby at_315) hr)
    · obtain ⟨o411, o412, kc413, hc414, hc415, hc416, hc417, rfl, Nq346, K346, f418, f419, f420, f421, f422, f423⟩ := hQ346
      have N346 := Fr.app N331 Nq346
      have g424 : n0 ≤ o411 := Nat.le_trans (own_osz F345) f418
      have F426 := (Nat.le_trans F334 K331.1)
      have z425 : h0.size ≤ o411 := Nat.le_trans F426 f418
      have g427 : n0 ≤ o412 := Nat.le_trans (own_osz F345) f419
      have z428 : h0.size ≤ o412 := Nat.le_trans F426 f419
      have CH429 := CHr.trans CH336 ch346
      refine ot T346 (mkF m 225 #[vI pi0, vI pi1, vI pi2, vI pi3, vI pi4, vI (4 : Int32), vI (own_ch pi0), vI (own_ch pi1), vI (own_ch pi2), vI (own_ch pi3), vR b297, vR b318, vI (own_k (4 : Int32) (own_ch pi3) (own_k (3 : Int32) (own_ch pi2) (own_k (2 : Int32) (own_ch pi1) (own_k (1 : Int32) (own_ch pi0) (0 : Int32))))), vU] [(.ref o411)]) st346 ?_
      refine og T346 (mkF m 227 #[vI pi0, vI pi1, vI pi2, vI pi3, vI pi4, vI (4 : Int32), vI (own_ch pi0), vI (own_ch pi1), vI (own_ch pi2), vI (own_ch pi3), vR b297, vR b318, vI (own_k (4 : Int32) (own_ch pi3) (own_k (3 : Int32) (own_ch pi2) (own_k (2 : Int32) (own_ch pi1) (own_k (1 : Int32) (own_ch pi0) (0 : Int32))))), vR o411] []) (fun _ k => XS.astore X346.here hx rfl (hb hby at_225) rfl rfl (l' := #[vI pi0, vI pi1, vI pi2, vI pi3, vI pi4, vI (4 : Int32), vI (own_ch pi0), vI (own_ch pi1), vI (own_ch pi2), vI (own_ch pi3), vR b297, vR b318, vI (own_k (4 : Int32) (own_ch pi3) (own_k (3 : Int32) (own_ch pi2) (own_k (2 : Int32) (own_ch pi1) (own_k (1 : Int32) (own_ch pi0) (0 : Int32))))), vR o411]) rfl k) ?_
      have hd430 := own_c46 (own_chl _) hc417
      have hd431 := own_c46n (own_chl _) hc416
      have hd432 := own_c46n (own_chl _) hc415
      have hd433 := own_c46n (own_chl _) hc414
      have hk434 : (own_k (4 : Int32) (own_ch pi3) (own_k (3 : Int32) (own_ch pi2) (own_k (2 : Int32) (own_ch pi1) (own_k (1 : Int32) (own_ch pi0) (0 : Int32))))) = (1 : Int32) := by simp only [own_k, hd430, hd431, hd432, hd433, if_true, if_false, if_pos, if_neg, not_false_eq_true, reduceIte]
      rw [hk434]
      refine og T346 (mkF m 229 #[vI pi0, vI pi1, vI pi2, vI pi3, vI pi4, vI (4 : Int32), vI (own_ch pi0), vI (own_ch pi1), vI (own_ch pi2), vI (own_ch pi3), vR b297, vR b318, vI (1 : Int32), vR o411] [(.ref o411)]) (fun _ k => XS.aload X346.here hx rfl (hb hby at_227) rfl rfl k) ?_
      have hp435 : ∀ c ∈ ([(own_ch pi0)] : List Int32), ¬ c < 0 ∧ ¬ (255 : Int32) < c := by
        intro c hc
        simp only [List.mem_cons, List.not_mem_nil, or_false] at hc
        rcases hc with rfl
        · exact (own_chl _)
      have F436 := (F345.keep K346 all0)
      obtain ⟨cq437, kq437, q437a, q437b, q437c⟩ := isOf hZ346 rfl f420
      obtain ⟨_, _, ⟨T437, L437, k437, n437⟩, -, X437, ⟨Lc437, hQ437, l437, y437, z437⟩, st437⟩ := X346.virtualBack hx (y := y3) (z := y3) hown346 (mvT hZ346 (own_w hw 81)) (mvT hZ346 (own_w hw 37)) (notFace_of_selects (args := #[]) (mvT hZ346 (own_w hw 39))) (mvT hZ346 (own_w hw 39)) (mvT hZ346 (own_w hw 38)) (by decide) (StrChars.Road.lenW (W := 0) hZ346 (own_hln hw) (kI := 4) (own_w hw 7) (cs := ([(own_ch pi0)] : List Int32)) f420 f422 f421 f423 (StrChars.Road.codOf rfl (fun c hc => (hp435 c hc).2)) (own_up _ hp435) (O2.ext F436.2) P5 (lb rfl) (lb rfl) (lb rfl)) q437a q437c (g := (mkF m 229 #[vI pi0, vI pi1, vI pi2, vI pi3, vI pi4, vI (4 : Int32), vI (own_ch pi0), vI (own_ch pi1), vI (own_ch pi2), vI (own_ch pi3), vR b297, vR b318, vI (1 : Int32), vR o411] [(.ref o411)])) rfl (by rw [hml]; rfl) (Steps.refl _) (argsL := []) (rest := []) (lenOf pd_3 rfl) rfl (lb rfl) (hb hby at_229) (fun _ _ => ⟨rfl, rfl, (lb rfl), (lb rfl)⟩)
      dsimp only [Pt.U, Pt.locs, Pt.cells, Pt.slots] at X437 l437 y437 z437 st437 hQ437
      subst l437 y437 z437
      obtain ⟨rfl, rfl, eq437⟩ := hQ437
      have N437 := Fr.app N346 (Fr.nil n0)
      refine ot T437 (mkF m 232 #[vI pi0, vI pi1, vI pi2, vI pi3, vI pi4, vI (4 : Int32), vI (own_ch pi0), vI (own_ch pi1), vI (own_ch pi2), vI (own_ch pi3), vR b297, vR b318, vI (1 : Int32), vR o411] [(.int (1 : Int32))]) st437 ?_
      refine og T437 (mkF m 247 #[vI pi0, vI pi1, vI pi2, vI pi3, vI pi4, vI (4 : Int32), vI (own_ch pi0), vI (own_ch pi1), vI (own_ch pi2), vI (own_ch pi3), vR b297, vR b318, vI (1 : Int32), vR o411] [(.int (0 : Int32)), (.ref o411)]) (fun _ k => XS.iload X437.here hx rfl (hb hby at_232) rfl (XS.icmpYes X437.here hx rfl (pc0 := 234) (pc' := 239) rfl (hb hby at_234) rfl (teq (by decide : (1 : Int32) = (1 : Int32))).1 (by decide) (by decide) (XS.iload X437.here hx rfl (hb hby at_239) rfl (XS.ifNo X437.here hx rfl (hb hby at_241) rfl ((if0 _ _).trans (tlt (by decide : (0 : Int32) < (1 : Int32))).2.2.2) (XS.aload X437.here hx rfl (hb hby at_244) rfl rfl (XS.iconst X437.here hx rfl (hb hby at_246) k)))))) ?_
      obtain ⟨cq438, kq438, q438a, q438b, q438c⟩ := isOf hZ346 eq437 f420
      obtain ⟨_, _, ⟨T438, L438, k438, n438⟩, -, X438, ⟨Lc438, hQ438, l438, y438, z438⟩, st438⟩ := X437.virtualBack hx (y := y15) (z := y15) hown346 (mvT hZ346 (own_w hw 114)) (mvT hZ346 (own_w hw 115)) (notFace_of_selects (args := #[]) (mvT hZ346 (own_w hw 117))) (mvT hZ346 (own_w hw 117)) (mvT hZ346 (own_w hw 116)) (by decide) (StrChars.Road.chN (W := 0) hZ346 (own_hch hw) (kI := 4) (own_w hw 7) (cs := ([(own_ch pi0)] : List Int32)) (i := 0) f420 f422 f421 f423 (StrChars.Road.codOf rfl (fun c hc => (hp435 c hc).2)) (own_up _ hp435) (O2.ext F436.2) P5 (O4.ext F436.2) rG3 (lb rfl) (lb rfl) rfl (lb rfl) (lb rfl)) q438a q438c (g := (mkF m 247 #[vI pi0, vI pi1, vI pi2, vI pi3, vI pi4, vI (4 : Int32), vI (own_ch pi0), vI (own_ch pi1), vI (own_ch pi2), vI (own_ch pi3), vR b297, vR b318, vI (1 : Int32), vR o411] [(.int (0 : Int32)), (.ref o411)])) rfl (by rw [hml]; rfl) (Steps.refl _) (argsL := [(.int (0 : Int32))]) (rest := []) (lenOf pd_0 rfl) rfl (lb rfl) (hb hby at_247) (fun _ _ => ⟨rfl, eq437, (lb rfl), (lb rfl)⟩)
      dsimp only [Pt.U, Pt.locs, Pt.cells, Pt.slots] at X438 l438 y438 z438 st438 hQ438
      subst l438 y438 z438
      obtain ⟨rfl, rfl, eq438⟩ := hQ438
      have N438 := Fr.app N437 (Fr.nil n0)
      refine ot T438 (mkF m 250 #[vI pi0, vI pi1, vI pi2, vI pi3, vI pi4, vI (4 : Int32), vI (own_ch pi0), vI (own_ch pi1), vI (own_ch pi2), vI (own_ch pi3), vR b297, vR b318, vI (1 : Int32), vR o411] [(.int (own_ch pi0))]) st438 ?_
      refine og T438 (mkF m 298 #[vI pi0, vI pi1, vI pi2, vI pi3, vI pi4, vI (4 : Int32), vI (own_ch pi0), vI (own_ch pi1), vI (own_ch pi2), vI (own_ch pi3), vR b297, vR b318, vI (1 : Int32), vR o411] [(.int (3 : Int32)), (.int (1 : Int32))]) (fun _ k => XS.iload X438.here hx rfl (hb hby at_250) rfl (XS.icmpYes X438.here hx rfl (pc0 := 252) (pc' := 257) rfl (hb hby at_252) rfl (teq (rfl : (own_ch pi0) = (own_ch pi0))).1 (by decide) (by decide) (XS.iload X438.here hx rfl (hb hby at_257) rfl (XS.iconst X438.here hx rfl (hb hby at_259) (XS.icmpYes X438.here hx rfl (pc0 := 260) (pc' := 276) rfl (hb hby at_260) rfl (flt (by decide : ¬ ((1 : Int32) < (1 : Int32)))).2.2.2 (by decide) (by decide) (XS.iload X438.here hx rfl (hb hby at_276) rfl (XS.iconst X438.here hx rfl (hb hby at_278) (XS.icmpYes X438.here hx rfl (pc0 := 279) (pc' := 295) rfl (hb hby at_279) rfl (flt (by decide : ¬ ((2 : Int32) < (1 : Int32)))).2.2.2 (by decide) (by decide) (XS.iload X438.here hx rfl (hb hby at_295) rfl (XS.iconst X438.here hx rfl (hb hby at_297) k)))))))))) ?_
      refine og T438 (mkF m 315 #[vI pi0, vI pi1, vI pi2, vI pi3, vI pi4, vI (4 : Int32), vI (own_ch pi0), vI (own_ch pi1), vI (own_ch pi2), vI (own_ch pi3), vR b297, vR b318, vI (1 : Int32), vR o411] [(.int (1 : Int32))]) (fun _ k => XS.icmpYes X438.here hx rfl (pc0 := 298) (pc' := 314) rfl (hb hby at_298) rfl (flt (by decide : ¬ ((3 : Int32) < (1 : Int32)))).2.2.2 (by decide) (by decide) (XS.iconst X438.here hx rfl (hb hby at_314) k)) ?_
      exact own_leaveW (s := s) (vm0 := T346.vm) X438 hS346 (Nat.le_refl _) hZ346 (own_EW hw) eq438 CH429 hh hlk (v := some (.int (nar .boolean (1 : Int32)))) (fun h => by rw [hret] at h; cases h) (lb rfl) (lb rfl) (by rw [eq438]; exact ⟨rfl, N438⟩) (fun fs hr => retN X438 hx (t := .boolean) hret (by simp) (hb hby at_315) hr)
    · obtain ⟨o439, o440, kc441, hc442, hc443, hc444, hc445, rfl, Nq346, K346, f446, f447, f448, f449, f450, f451⟩ := hQ346
      have N346 := Fr.app N331 Nq346
      have CH452 := CHr.trans CH336 ch346
      refine ot T346 (mkF m 225 #[vI pi0, vI pi1, vI pi2, vI pi3, vI pi4, vI (4 : Int32), vI (own_ch pi0), vI (own_ch pi1), vI (own_ch pi2), vI (own_ch pi3), vR b297, vR b318, vI (own_k (4 : Int32) (own_ch pi3) (own_k (3 : Int32) (own_ch pi2) (own_k (2 : Int32) (own_ch pi1) (own_k (1 : Int32) (own_ch pi0) (0 : Int32))))), vU] [(.ref o439)]) st346 ?_
      refine og T346 (mkF m 227 #[vI pi0, vI pi1, vI pi2, vI pi3, vI pi4, vI (4 : Int32), vI (own_ch pi0), vI (own_ch pi1), vI (own_ch pi2), vI (own_ch pi3), vR b297, vR b318, vI (own_k (4 : Int32) (own_ch pi3) (own_k (3 : Int32) (own_ch pi2) (own_k (2 : Int32) (own_ch pi1) (own_k (1 : Int32) (own_ch pi0) (0 : Int32))))), vR o439] []) (fun _ k => XS.astore X346.here hx rfl (hb hby at_225) rfl rfl (l' := #[vI pi0, vI pi1, vI pi2, vI pi3, vI pi4, vI (4 : Int32), vI (own_ch pi0), vI (own_ch pi1), vI (own_ch pi2), vI (own_ch pi3), vR b297, vR b318, vI (own_k (4 : Int32) (own_ch pi3) (own_k (3 : Int32) (own_ch pi2) (own_k (2 : Int32) (own_ch pi1) (own_k (1 : Int32) (own_ch pi0) (0 : Int32))))), vR o439]) rfl k) ?_
      have hd453 := own_c46n (own_chl _) hc445
      have hd454 := own_c46n (own_chl _) hc444
      have hd455 := own_c46n (own_chl _) hc443
      have hd456 := own_c46n (own_chl _) hc442
      have hk457 : (own_k (4 : Int32) (own_ch pi3) (own_k (3 : Int32) (own_ch pi2) (own_k (2 : Int32) (own_ch pi1) (own_k (1 : Int32) (own_ch pi0) (0 : Int32))))) = (0 : Int32) := by simp only [own_k, hd453, hd454, hd455, hd456, if_true, if_false, if_pos, if_neg, not_false_eq_true, reduceIte]
      rw [hk457]
      refine og T346 (mkF m 229 #[vI pi0, vI pi1, vI pi2, vI pi3, vI pi4, vI (4 : Int32), vI (own_ch pi0), vI (own_ch pi1), vI (own_ch pi2), vI (own_ch pi3), vR b297, vR b318, vI (0 : Int32), vR o439] [(.ref o439)]) (fun _ k => XS.aload X346.here hx rfl (hb hby at_227) rfl rfl k) ?_
      have hp458 : ∀ c ∈ ([] : List Int32), ¬ c < 0 ∧ ¬ (255 : Int32) < c := by
        intro c hc
        cases hc
      have F459 := (F345.keep K346 all0)
      obtain ⟨cq460, kq460, q460a, q460b, q460c⟩ := isOf hZ346 rfl f448
      obtain ⟨_, _, ⟨T460, L460, k460, n460⟩, -, X460, ⟨Lc460, hQ460, l460, y460, z460⟩, st460⟩ := X346.virtualBack hx (y := y3) (z := y3) hown346 (mvT hZ346 (own_w hw 81)) (mvT hZ346 (own_w hw 37)) (notFace_of_selects (args := #[]) (mvT hZ346 (own_w hw 39))) (mvT hZ346 (own_w hw 39)) (mvT hZ346 (own_w hw 38)) (by decide) (StrChars.Road.lenW (W := 0) hZ346 (own_hln hw) (kI := 4) (own_w hw 7) (cs := ([] : List Int32)) f448 f450 f449 f451 (StrChars.Road.codOf rfl (fun c hc => (hp458 c hc).2)) (own_up _ hp458) (O2.ext F459.2) P5 (lb rfl) (lb rfl) (lb rfl)) q460a q460c (g := (mkF m 229 #[vI pi0, vI pi1, vI pi2, vI pi3, vI pi4, vI (4 : Int32), vI (own_ch pi0), vI (own_ch pi1), vI (own_ch pi2), vI (own_ch pi3), vR b297, vR b318, vI (0 : Int32), vR o439] [(.ref o439)])) rfl (by rw [hml]; rfl) (Steps.refl _) (argsL := []) (rest := []) (lenOf pd_3 rfl) rfl (lb rfl) (hb hby at_229) (fun _ _ => ⟨rfl, rfl, (lb rfl), (lb rfl)⟩)
      dsimp only [Pt.U, Pt.locs, Pt.cells, Pt.slots] at X460 l460 y460 z460 st460 hQ460
      subst l460 y460 z460
      obtain ⟨rfl, rfl, eq460⟩ := hQ460
      have N460 := Fr.app N346 (Fr.nil n0)
      refine ot T460 (mkF m 232 #[vI pi0, vI pi1, vI pi2, vI pi3, vI pi4, vI (4 : Int32), vI (own_ch pi0), vI (own_ch pi1), vI (own_ch pi2), vI (own_ch pi3), vR b297, vR b318, vI (0 : Int32), vR o439] [(.int (0 : Int32))]) st460 ?_
      refine og T460 (mkF m 295 #[vI pi0, vI pi1, vI pi2, vI pi3, vI pi4, vI (4 : Int32), vI (own_ch pi0), vI (own_ch pi1), vI (own_ch pi2), vI (own_ch pi3), vR b297, vR b318, vI (0 : Int32), vR o439] []) (fun _ k => XS.iload X460.here hx rfl (hb hby at_232) rfl (XS.icmpYes X460.here hx rfl (pc0 := 234) (pc' := 239) rfl (hb hby at_234) rfl (teq (by decide : (0 : Int32) = (0 : Int32))).1 (by decide) (by decide) (XS.iload X460.here hx rfl (hb hby at_239) rfl (XS.ifYes X460.here hx rfl (pc0 := 241) (pc' := 257) rfl (hb hby at_241) rfl ((if0 _ _).trans (flt (by decide : ¬ ((0 : Int32) < (0 : Int32)))).2.2.2) (by decide) (by decide) (XS.iload X460.here hx rfl (hb hby at_257) rfl (XS.iconst X460.here hx rfl (hb hby at_259) (XS.icmpYes X460.here hx rfl (pc0 := 260) (pc' := 276) rfl (hb hby at_260) rfl (flt (by decide : ¬ ((1 : Int32) < (0 : Int32)))).2.2.2 (by decide) (by decide) (XS.iload X460.here hx rfl (hb hby at_276) rfl (XS.iconst X460.here hx rfl (hb hby at_278) (XS.icmpYes X460.here hx rfl (pc0 := 279) (pc' := 295) rfl (hb hby at_279) rfl (flt (by decide : ¬ ((2 : Int32) < (0 : Int32)))).2.2.2 (by decide) (by decide) k)))))))))) ?_
      refine og T460 (mkF m 315 #[vI pi0, vI pi1, vI pi2, vI pi3, vI pi4, vI (4 : Int32), vI (own_ch pi0), vI (own_ch pi1), vI (own_ch pi2), vI (own_ch pi3), vR b297, vR b318, vI (0 : Int32), vR o439] [(.int (1 : Int32))]) (fun _ k => XS.iload X460.here hx rfl (hb hby at_295) rfl (XS.iconst X460.here hx rfl (hb hby at_297) (XS.icmpYes X460.here hx rfl (pc0 := 298) (pc' := 314) rfl (hb hby at_298) rfl (flt (by decide : ¬ ((3 : Int32) < (0 : Int32)))).2.2.2 (by decide) (by decide) (XS.iconst X460.here hx rfl (hb hby at_314) k)))) ?_
      exact own_leaveW (s := s) (vm0 := T346.vm) X460 hS346 (Nat.le_refl _) hZ346 (own_EW hw) eq460 CH452 hh hlk (v := some (.int (nar .boolean (1 : Int32)))) (fun h => by rw [hret] at h; cases h) (lb rfl) (lb rfl) (by rw [eq460]; exact ⟨rfl, N460⟩) (fun fs hr => retN X460 hx (t := .boolean) hret (by simp) (hb hby at_315) hr)
set_option maxRecDepth 65536 in
set_option maxHeartbeats 40000000 in
theorem comes_1 {Post : Tables → Env → Array Value → State → Outcome → State → Prop} (hpost : ∀ tb e args s v u, (limb_1_1.after args s (.returned v) u = true ∧ limb_1_2.after args s (.returned v) u = true ∧ True) → ReturnedEndW s (.returned v) u (Jvm.fieldLocs frame_1_writes args s ++ Jvm.arrayLocs frame_1_arrays args s ++ Jvm.staticLocs frame_1_statics s) 24 2176 → Post tb e args s (.returned v) u) :
    ArmFor flags0 classFile x code maxLocals ret World_1 tables_1 room_1 Calls_1 rest_1 Pre_1 Post := by
  intro l hfl _ _ p e ha hc hk s m args below hf hA hF happ hP
  obtain ⟨hcalls, hrest, hpre⟩ := hP
  obtain ⟨-, -, -, hnamed, -, -, -, hat⟩ := (Spec.applies_iff hf).mp happ
  obtain ⟨hg, hn⟩ := and_e (Cond.before_iff.mp (show (Jvm.Cond.and given_1 narrow_1).before args s = true from hpre))
  obtain ⟨gv0, gr0⟩ := and_e hg
  obtain ⟨gv1, gr1⟩ := and_e gr0
  obtain ⟨gv2, gr2⟩ := and_e gr1
  obtain ⟨gv3, gr3⟩ := and_e gr2
  obtain ⟨gv4, gv5⟩ := and_e gr3
  obtain ⟨w0, w1, w2, w3, w4, rfl⟩ : ∃ w0 w1 w2 w3 w4 : Value, args = #[w0, w1, w2, w3, w4] := by
    have hs : args.size = 5 := by simpa [Cond.value, given_1] using gv0
    obtain ⟨L⟩ := args
    match L, hs with
    | [w0, w1, w2, w3, w4], _ => exact ⟨w0, w1, w2, w3, w4, rfl⟩
  have hw := fun d (hd : d ∈ tables_1) => atoms_spec (ws := Jvm.Cond.code x code maxLocals ret :: tables_1) hat d (List.mem_cons_of_mem _ hd)
  have hfit : Fit s := fun {y c} hc i hi => by
    obtain ⟨ha, rfl⟩ := Array.getElem?_eq_some_iff.mp hc
    have q := List.all_eq_true.mp ((Array.all_eq_true_iff_forall_mem.mp hF) _ (Array.getElem_mem ha)) i (List.mem_range.mpr hi)
    simpa [Array.getElem?_eq_getElem hi] using q
  obtain ⟨hsets, hown0⟩ := atoms_of _ (rest_1_c_eq ▸ (show rest_1_c.before _ s = true from hrest))
  obtain ⟨i0, ei0⟩ := is_v gv1
  obtain rfl : w0 = (.int i0) := Option.some.inj ei0
  obtain ⟨i1, ei1⟩ := is_v gv2
  obtain rfl : w1 = (.int i1) := Option.some.inj ei1
  obtain ⟨i2, ei2⟩ := is_v gv3
  obtain rfl : w2 = (.int i2) := Option.some.inj ei2
  obtain ⟨i3, ei3⟩ := is_v gv4
  obtain rfl : w3 = (.int i3) := Option.some.inj ei3
  obtain ⟨i4, ei4⟩ := is_v gv5
  obtain rfl : w4 = (.int i4) := Option.some.inj ei4
  have n5 := not_v (Cond.before_iff.mp (hsets _ (List.mem_of_getElem? (i := 2) rfl)))
  obtain ⟨G1, eG1⟩ := is_v (Cond.before_iff.mp (hsets _ (List.mem_of_getElem? (i := 1) rfl)))
  have O2 : Sta s s.heap "java/lang/String" "COMPACT_STRINGS" "Z" (.int G1) := Sta.start eG1 (Or.inl (hsets _ (List.mem_of_getElem? (i := 0) rfl)))
  have P5 : ¬ (G1 = (0 : Int32)) := gotF (Cond.eq_ints eG1 (Term.int_eval (0))) n5
  obtain ⟨G3, eG3, rG3⟩ := isR_v (Cond.before_iff.mp (hsets _ (List.mem_of_getElem? (i := 8) rfl)))
  have O4 : Sta s s.heap "jdk/internal/util/Preconditions" "SIOOBE_FORMATTER" "Ljava/util/function/BiFunction;" G3 := Sta.start eG3 (Or.inl (hsets _ (List.mem_of_getElem? (i := 7) rfl)))
  have CHs : CHv s own_EL s.vm s.heap := CHv.start (own_EW hw) (fun p hp => own_held hcalls p hp) (hsets _ (List.mem_of_getElem? (i := 2) rfl)) (own_wa hw) (own_wi hw)
  obtain ⟨n, o, h1, h2, h3, _, L, rfl, ⟨rfl, N⟩, -, hq⟩ := rmlaw l s _ hw i0 i1 i2 i3 i4 G1 G3 s.heap s.heap.size (Old.start s) O2 P5 O4 rG3 p e ha hc hk s m _ below hf ((Spec.applies_iff_loose hf).mp happ).1 ⟨rfl, State.Warmed39.refl s, rfl, CHs, all0⟩ trivial
  refine ⟨n, _, h1, h2, h3, hpost _ _ _ _ _ _ ⟨Cond.after_iff.mpr rfl, Cond.after_iff.mpr (eq_i res_at (Term.int_eval (1)) rfl), trivial⟩ ⟨hq.1, hq.2.1, hq.2.2.1, (hq.2.2.2.sift fun y hy => Or.inr (N y hy)).mono (by decide) (by decide)⟩⟩
theorem main_1_1 : Claimed_1_1 := comes_1 fun _ _ _ _ _ _ h hF => ⟨h.1, hF⟩
theorem main_1_2 : Claimed_1_2 := comes_1 fun _ _ _ _ _ _ h hF => ⟨h.2.1, hF⟩
end Jvm.Pilot.@@N@@
namespace Jvm.Pilot.@@N@@
open Jvm Jvm.ClassFile Sem Op Lib Jvm.Free Jvm.Stand Jvm.Pilot.@@N@@.Jvm.D
/-! MADE BY PROGRAM (witnessworld.py) out of the Statement's table words and the real class files: 23 classes; the members and pool entries that the words name. The judged class is class 1, her method 2. -/
namespace start1
open Jvm.ClassFile
def u (s : String) : CpInfo := .utf8 (stringToUtf16 s)
/-- a pool by its gaps: so many unusable entries, then the entry; so many at the end -/
def gap : Nat → List CpInfo → List CpInfo
  | 0, r => r
  | n + 1, r => .unusable :: gap n r
def poolList (es : List (Nat × CpInfo)) (last : Nat) : List CpInfo := es.foldr (fun e r => gap e.1 (e.2 :: r)) (gap last [])
def pool (es : List (Nat × CpInfo)) (last : Nat) : Array CpInfo := ⟨poolList es last⟩
def fileOf (pool : Array CpInfo) (this : Nat) (attrs : Array Attribute := #[]) (ms : Array MethodInfo := #[]) (fl : Nat := 33) (sup : Nat := 0) (ifs : Array Nat := #[]) (fds : Array FieldInfo := #[]) : ClassFile where
  minorVersion := 0
  majorVersion := 65
  constantPool := pool
  accessFlags := fl
  thisClass := this
  superClass := sup
  interfaces := ifs
  fields := fds
  methods := ms
  attributes := attrs
def plain (name : String) (sup : Option ClassId) : Class where
  name := name
  kind := .ordinary
  loader := none
  accessFlags := 33
  super := sup
  interfaces := #[]
  cf := none
  fields := #[]
  methods := #[]
  instanceTypes := #[]
  staticTypes := #[]
  resolved := #[]
  callSites := []
  init := .initialized
  statics := none
  mirror := none

def pool0 : Array CpInfo := pool [(5, u "<init>"), (0, u "()V"), (1, .class_ 10), (1, u "java/lang/Object")] 113

def k0c0 : Code := { maxStack := 0, maxLocals := 1, code := object_method_1_code, exceptionTable := #[], attributes := #[] }
def k0m0 : Method := { name := "<init>", desc := "()V", sig := { parameters := [], returnType := none }, accessFlags := 1, code := some k0c0 }
/-- java/lang/Object -/
def k0 : Class := { plain "java/lang/Object" none with
  accessFlags := 33
  interfaces := #[]
  cf := some (fileOf pool0 8 #[] #[{ accessFlags := 1, nameIndex := 5, descriptorIndex := 6, attributes := #[] }] 33 0 #[] #[])
  fields := #[]
  methods := #[k0m0]
  instanceTypes := #[]
  staticTypes := #[]
  resolved := Array.replicate 124 none
  statics := none }

def pool1 : Array CpInfo := pool [(2, .class_ 4), (1, u "java/lang/Object"), (0, u "<init>"), (0, u "()V"), (0, .integer 2147483647), (0, .methodref 9 10), (0, .class_ 11), (0, .nameAndType 12 13), (0, u "com/example/bill_of_claims/billofclaims/labels/LabelWordsPrefixPinLaw"), (0, u "ch"), (0, u "(I)C"), (0, .class_ 15), (0, u "java/lang/String"), (0, .methodref 14 17), (0, .nameAndType 5 18), (0, u "([C)V"), (0, .methodref 20 21), (0, .class_ 22), (0, .nameAndType 23 24), (0, u "com/example/bill_of_claims/billofclaims/labels/LabelWords"), (0, u "prefix"), (0, u "(Ljava/lang/String;)Ljava/lang/String;"), (0, .methodref 14 26), (0, .nameAndType 27 28), (0, u "length"), (0, u "()I"), (0, .methodref 14 30), (0, .nameAndType 31 13), (0, u "charAt"), (3, u "law"), (0, u "(IIIII)Z")] 4

def k1m0 : Method := { name := "<init>", desc := "()V", sig := { parameters := [], returnType := none }, accessFlags := 1, code := none }
def k1c1 : Code := { maxStack := 2, maxLocals := 1, code := method_2_code, exceptionTable := #[], attributes := #[] }
def k1m1 : Method := { name := "ch", desc := "(I)C", sig := { parameters := [.int], returnType := some .char }, accessFlags := 10, code := some k1c1 }
def k1c2 : Code := { maxStack := 4, maxLocals := 14, code := code, exceptionTable := #[], attributes := #[] }
def k1m2 : Method := { name := "law", desc := "(IIIII)Z", sig := { parameters := [.int, .int, .int, .int, .int], returnType := some .boolean }, accessFlags := 9, code := some k1c2 }
/-- com/example/bill_of_claims/billofclaims/labels/LabelWordsPrefixPinLaw -/
def k1 : Class := { plain "com/example/bill_of_claims/billofclaims/labels/LabelWordsPrefixPinLaw" (some 0) with
  accessFlags := 49
  interfaces := #[]
  cf := some (fileOf pool1 9 #[] #[{ accessFlags := 1, nameIndex := 5, descriptorIndex := 6, attributes := #[] }, { accessFlags := 10, nameIndex := 12, descriptorIndex := 13, attributes := #[] }, { accessFlags := 9, nameIndex := 35, descriptorIndex := 36, attributes := #[] }] 49 2 #[] #[])
  fields := #[]
  methods := #[k1m0, k1m1, k1m2]
  instanceTypes := #[]
  staticTypes := #[]
  resolved := Array.replicate 41 none
  statics := none }

def pool2 : Array CpInfo := pool [(1, .class_ 2), (0, u "java/io/Serializable"), (0, .class_ 4), (0, u "java/lang/Object")] 2

/-- java/io/Serializable -/
def k2 : Class := { plain "java/io/Serializable" (some 0) with
  accessFlags := 1537
  interfaces := #[]
  cf := some (fileOf pool2 1 #[] #[] 1537 3 #[] #[])
  fields := #[]
  methods := #[]
  instanceTypes := #[]
  staticTypes := #[]
  resolved := Array.replicate 7 none
  statics := none }

def pool3 : Array CpInfo := pool [(1, .class_ 2), (0, u "java/lang/Comparable"), (0, .class_ 4), (0, u "java/lang/Object")] 7

/-- java/lang/Comparable -/
def k3 : Class := { plain "java/lang/Comparable" (some 0) with
  accessFlags := 1537
  interfaces := #[]
  cf := some (fileOf pool3 1 #[] #[] 1537 3 #[] #[])
  fields := #[]
  methods := #[]
  instanceTypes := #[]
  staticTypes := #[]
  resolved := Array.replicate 12 none
  statics := none }

def pool4 : Array CpInfo := pool [(2, .class_ 4), (1, u "java/lang/CharSequence"), (42, .class_ 48), (0, u "java/lang/CharSequence$1CodePointIterator"), (10, .class_ 60), (0, u "java/lang/CharSequence$1CharIterator"), (5, .class_ 67), (0, u "java/lang/Object")] 63

/-- java/lang/CharSequence -/
def k4 : Class := { plain "java/lang/CharSequence" (some 0) with
  accessFlags := 1537
  interfaces := #[]
  cf := some (fileOf pool4 2 #[.nestMembers #[47, 59]] #[] 1537 66 #[] #[])
  fields := #[]
  methods := #[]
  instanceTypes := #[]
  staticTypes := #[]
  resolved := Array.replicate 131 none
  statics := none }

def pool5 : Array CpInfo := pool [(1, .class_ 2), (0, u "java/lang/constant/Constable"), (0, .class_ 4), (0, u "java/lang/Object")] 6

/-- java/lang/constant/Constable -/
def k5 : Class := { plain "java/lang/constant/Constable" (some 0) with
  accessFlags := 1537
  interfaces := #[]
  cf := some (fileOf pool5 1 #[] #[] 1537 3 #[] #[])
  fields := #[]
  methods := #[]
  instanceTypes := #[]
  staticTypes := #[]
  resolved := Array.replicate 11 none
  statics := none }

def pool6 : Array CpInfo := pool [(1, .class_ 2), (0, u "java/lang/constant/ConstantDesc"), (0, .class_ 4), (0, u "java/lang/Object")] 32

/-- java/lang/constant/ConstantDesc -/
def k6 : Class := { plain "java/lang/constant/ConstantDesc" (some 0) with
  accessFlags := 1537
  interfaces := #[]
  cf := some (fileOf pool6 1 #[] #[] 1537 3 #[] #[])
  fields := #[]
  methods := #[]
  instanceTypes := #[]
  staticTypes := #[]
  resolved := Array.replicate 37 none
  statics := none }

def pool7 : Array CpInfo := pool [(1, .methodref 2 3), (0, .class_ 4), (0, .nameAndType 5 6), (0, u "java/lang/Object"), (0, u "<init>"), (0, u "()V"), (0, .string 8), (0, u ""), (0, .fieldref 10 11), (0, .class_ 12), (0, .nameAndType 13 14), (0, u "java/lang/String"), (0, u "value"), (0, u "[B"), (0, .fieldref 10 16), (0, .nameAndType 17 18), (0, u "coder"), (0, u "B"), (2, u "hash"), (0, u "I"), (2, u "hashIsZero"), (0, u "Z"), (0, .methodref 10 28), (0, .nameAndType 5 29), (0, u "([CIILjava/lang/Void;)V"), (8, .fieldref 10 39), (0, .nameAndType 40 26), (0, u "COMPACT_STRINGS"), (1, .class_ 44), (1, u "java/lang/StringUTF16"), (0, u "compress"), (1, .methodref 42 48), (0, .nameAndType 49 50), (0, u "coderFromArrayLen"), (0, u "([BI)B"), (46, u "([BII)I"), (9, .class_ 109), (1, u "java/lang/StringLatin1"), (32, u "()Z"), (34, .methodref 42 178), (0, .nameAndType 45 179), (0, u "([CII)[B"), (31, u "([BB)V"), (122, u "()I"), (0, .methodref 10 336), (0, .nameAndType 17 337), (0, u "()B"), (25, u "([BI)C"), (27, u "(II)V"), (35, u "(I)C"), (64, .methodref 10 493), (0, .nameAndType 494 142), (0, u "isLatin1"), (0, .methodref 107 496), (0, .nameAndType 497 363), (0, u "charAt"), (3, u "checkIndex"), (3, .methodref 10 506), (0, .nameAndType 507 334), (0, u "length"), (5, u "checkFromToIndex"), (7, .methodref 10 522), (0, .nameAndType 523 524), (0, u "checkBoundsBeginEnd"), (0, u "(III)V"), (50, .class_ 576), (0, u "java/lang/CharSequence"), (22, u "CASE_INSENSITIVE_ORDER"), (0, u "Ljava/util/Comparator;"), (35, u "(II)I"), (4, .methodref 10 642), (0, .nameAndType 643 636), (0, u "lastIndexOf"), (0, .methodref 107 645), (0, .nameAndType 643 97), (37, u "substring"), (0, u "(II)Ljava/lang/String;"), (0, .methodref 107 686), (0, .nameAndType 687 688), (0, u "newString"), (0, u "([BII)Ljava/lang/String;"), (76, u "(I)I"), (244, u "([C)V"), (42, .fieldref 1054 1055), (0, .class_ 1056), (0, .nameAndType 1057 1058), (0, u "jdk/internal/util/Preconditions"), (0, u "SIOOBE_FORMATTER"), (0, u "Ljava/util/function/BiFunction;"), (0, .methodref 1054 1060), (0, .nameAndType 501 1061), (0, u "(IILjava/util/function/BiFunction;)I"), (0, .methodref 1054 1063), (0, .nameAndType 513 1064), (0, u "(IIILjava/util/function/BiFunction;)I"), (36, u "serialPersistentFields"), (0, u "[Ljava/io/ObjectStreamField;"), (0, .class_ 1104), (0, u "java/lang/String$CaseInsensitiveComparator"), (1, .class_ 1107), (0, u "java/io/Serializable"), (0, .class_ 1109), (0, u "java/lang/Comparable"), (0, .class_ 1111), (0, u "java/lang/constant/Constable"), (0, .class_ 1113), (0, u "java/lang/constant/ConstantDesc"), (2, u "serialVersionUID"), (0, u "J"), (3, u "REPL"), (0, u "C"), (2, u "LATIN1"), (1, u "UTF16")] 323

def k7m0 : Method := { name := "<init>", desc := "()V", sig := { parameters := [], returnType := none }, accessFlags := 1, code := none }
def k7c1 : Code := { maxStack := 5, maxLocals := 2, code := jdk_42_method_3_code, exceptionTable := #[], attributes := #[] }
def k7m1 : Method := { name := "<init>", desc := "([C)V", sig := { parameters := [(.array .char)], returnType := none }, accessFlags := 1, code := some k7c1 }
def k7c2 : Code := { maxStack := 2, maxLocals := 1, code := jdk_42_method_54_code, exceptionTable := #[], attributes := #[] }
def k7m2 : Method := { name := "length", desc := "()I", sig := { parameters := [], returnType := some .int }, accessFlags := 1, code := some k7c2 }
def k7c3 : Code := { maxStack := 2, maxLocals := 2, code := jdk_42_method_56_code, exceptionTable := #[], attributes := #[] }
def k7m3 : Method := { name := "charAt", desc := "(I)C", sig := { parameters := [.int], returnType := some .char }, accessFlags := 1, code := some k7c3 }
def k7c4 : Code := { maxStack := 4, maxLocals := 2, code := jdk_42_method_82_code, exceptionTable := #[], attributes := #[] }
def k7m4 : Method := { name := "lastIndexOf", desc := "(I)I", sig := { parameters := [.int], returnType := some .int }, accessFlags := 1, code := some k7c4 }
def k7c5 : Code := { maxStack := 3, maxLocals := 3, code := jdk_42_method_83_code, exceptionTable := #[], attributes := #[] }
def k7m5 : Method := { name := "lastIndexOf", desc := "(II)I", sig := { parameters := [.int, .int], returnType := some .int }, accessFlags := 1, code := some k7c5 }
def k7c6 : Code := { maxStack := 3, maxLocals := 5, code := jdk_42_method_92_code, exceptionTable := #[], attributes := #[] }
def k7m6 : Method := { name := "substring", desc := "(II)Ljava/lang/String;", sig := { parameters := [.int, .int], returnType := some (.object "java/lang/String") }, accessFlags := 1, code := some k7c6 }
def k7c7 : Code := { maxStack := 4, maxLocals := 6, code := jdk_42_method_149_code, exceptionTable := #[], attributes := #[] }
def k7m7 : Method := { name := "<init>", desc := "([CIILjava/lang/Void;)V", sig := { parameters := [(.array .char), .int, .int, (.object "java/lang/Void")], returnType := none }, accessFlags := 2, code := some k7c7 }
def k7c8 : Code := { maxStack := 2, maxLocals := 3, code := jdk_42_method_151_code, exceptionTable := #[], attributes := #[] }
def k7m8 : Method := { name := "<init>", desc := "([BB)V", sig := { parameters := [(.array .byte), .byte], returnType := none }, accessFlags := 0, code := some k7c8 }
def k7c9 : Code := { maxStack := 1, maxLocals := 1, code := jdk_42_method_152_code, exceptionTable := #[], attributes := #[] }
def k7m9 : Method := { name := "coder", desc := "()B", sig := { parameters := [], returnType := some .byte }, accessFlags := 0, code := some k7c9 }
def k7c10 : Code := { maxStack := 1, maxLocals := 1, code := jdk_42_method_154_code, exceptionTable := #[], attributes := #[] }
def k7m10 : Method := { name := "isLatin1", desc := "()Z", sig := { parameters := [], returnType := some .boolean }, accessFlags := 0, code := some k7c10 }
def k7c11 : Code := { maxStack := 3, maxLocals := 2, code := jdk_42_method_155_code, exceptionTable := #[], attributes := #[] }
def k7m11 : Method := { name := "checkIndex", desc := "(II)V", sig := { parameters := [.int, .int], returnType := none }, accessFlags := 8, code := some k7c11 }
def k7c12 : Code := { maxStack := 4, maxLocals := 3, code := jdk_42_method_158_code, exceptionTable := #[], attributes := #[] }
def k7m12 : Method := { name := "checkBoundsBeginEnd", desc := "(III)V", sig := { parameters := [.int, .int, .int], returnType := none }, accessFlags := 8, code := some k7c12 }
/-- java/lang/String -/
def k7 : Class := { plain "java/lang/String" (some 0) with
  accessFlags := 49
  interfaces := #[2, 3, 4, 5, 6]
  cf := some (fileOf pool7 10 #[.nestMembers #[1103]] #[{ accessFlags := 1, nameIndex := 5, descriptorIndex := 6, attributes := #[] }, { accessFlags := 1, nameIndex := 5, descriptorIndex := 1010, attributes := #[] }, { accessFlags := 1, nameIndex := 507, descriptorIndex := 334, attributes := #[] }, { accessFlags := 1, nameIndex := 497, descriptorIndex := 427, attributes := #[] }, { accessFlags := 1, nameIndex := 643, descriptorIndex := 765, attributes := #[] }, { accessFlags := 1, nameIndex := 643, descriptorIndex := 636, attributes := #[] }, { accessFlags := 1, nameIndex := 683, descriptorIndex := 684, attributes := #[] }, { accessFlags := 2, nameIndex := 5, descriptorIndex := 29, attributes := #[] }, { accessFlags := 0, nameIndex := 5, descriptorIndex := 211, attributes := #[] }, { accessFlags := 0, nameIndex := 17, descriptorIndex := 337, attributes := #[] }, { accessFlags := 0, nameIndex := 494, descriptorIndex := 142, attributes := #[] }, { accessFlags := 8, nameIndex := 501, descriptorIndex := 391, attributes := #[] }, { accessFlags := 8, nameIndex := 523, descriptorIndex := 524, attributes := #[] }] 49 2 #[1106, 1108, 575, 1110, 1112] #[{ accessFlags := 18, nameIndex := 13, descriptorIndex := 14, attributes := #[] }, { accessFlags := 18, nameIndex := 17, descriptorIndex := 18, attributes := #[] }, { accessFlags := 2, nameIndex := 21, descriptorIndex := 22, attributes := #[] }, { accessFlags := 2, nameIndex := 25, descriptorIndex := 26, attributes := #[] }, { accessFlags := 26, nameIndex := 1116, descriptorIndex := 1117, attributes := #[] }, { accessFlags := 24, nameIndex := 40, descriptorIndex := 26, attributes := #[] }, { accessFlags := 26, nameIndex := 1101, descriptorIndex := 1102, attributes := #[] }, { accessFlags := 26, nameIndex := 1121, descriptorIndex := 1122, attributes := #[] }, { accessFlags := 25, nameIndex := 599, descriptorIndex := 600, attributes := #[] }, { accessFlags := 24, nameIndex := 1125, descriptorIndex := 18, attributes := #[] }, { accessFlags := 24, nameIndex := 1127, descriptorIndex := 18, attributes := #[] }])
  fields := #[{ name := "value", type := (.array .byte), accessFlags := 18, slot := 0, constantValue := 0 }, { name := "coder", type := .byte, accessFlags := 18, slot := 1, constantValue := 0 }, { name := "hash", type := .int, accessFlags := 2, slot := 2, constantValue := 0 }, { name := "hashIsZero", type := .boolean, accessFlags := 2, slot := 3, constantValue := 0 }, { name := "serialVersionUID", type := .long, accessFlags := 26, slot := 0, constantValue := 0 }, { name := "COMPACT_STRINGS", type := .boolean, accessFlags := 24, slot := 1, constantValue := 0 }, { name := "serialPersistentFields", type := (.array (.object "java/io/ObjectStreamField")), accessFlags := 26, slot := 2, constantValue := 0 }, { name := "REPL", type := .char, accessFlags := 26, slot := 3, constantValue := 0 }, { name := "CASE_INSENSITIVE_ORDER", type := (.object "java/util/Comparator"), accessFlags := 25, slot := 4, constantValue := 0 }, { name := "LATIN1", type := .byte, accessFlags := 24, slot := 5, constantValue := 0 }, { name := "UTF16", type := .byte, accessFlags := 24, slot := 6, constantValue := 0 }]
  methods := #[k7m0, k7m1, k7m2, k7m3, k7m4, k7m5, k7m6, k7m7, k7m8, k7m9, k7m10, k7m11, k7m12]
  instanceTypes := #[(.array .byte), .byte, .int, .boolean]
  staticTypes := #[.long, .boolean, (.array (.object "java/io/ObjectStreamField")), .char, (.object "java/util/Comparator"), .byte, .byte]
  resolved := Array.replicate 1451 none
  statics := some 0 }

def pool8 : Array CpInfo := pool [(2, .class_ 4), (1, u "java/lang/Object"), (3, .class_ 10), (1, u "com/example/bill_of_claims/billofclaims/labels/LabelWords"), (0, u "counts"), (0, u "Ljava/util/Map;"), (5, u "LABEL"), (0, u "Ljava/util/regex/Pattern;"), (70, u "LEADING"), (26, .class_ 118), (0, u "java/lang/String"), (0, .class_ 120), (0, u "com/example/bill_of_claims/billofclaims/labels/LabelWords$Leading"), (3, u "(Ljava/lang/String;)Ljava/lang/String;"), (10, .methodref 117 136), (0, .nameAndType 137 138), (0, u "lastIndexOf"), (0, u "(I)I"), (0, .methodref 117 140), (0, .nameAndType 141 142), (0, u "substring"), (0, u "(II)Ljava/lang/String;"), (4, u "GLUED"), (44, u "PREFIX"), (0, u "Ljava/lang/String;"), (3, u "NAME"), (12, u "prefix")] 42

def k8c0 : Code := { maxStack := 4, maxLocals := 1, code := prog_41_method_5_code, exceptionTable := #[], attributes := #[] }
def k8m0 : Method := { name := "prefix", desc := "(Ljava/lang/String;)Ljava/lang/String;", sig := { parameters := [(.object "java/lang/String")], returnType := some (.object "java/lang/String") }, accessFlags := 9, code := some k8c0 }
/-- com/example/bill_of_claims/billofclaims/labels/LabelWords -/
def k8 : Class := { plain "com/example/bill_of_claims/billofclaims/labels/LabelWords" (some 0) with
  accessFlags := 49
  interfaces := #[]
  cf := some (fileOf pool8 8 #[.nestMembers #[119]] #[{ accessFlags := 9, nameIndex := 210, descriptorIndex := 124, attributes := #[] }] 49 2 #[] #[{ accessFlags := 26, nameIndex := 192, descriptorIndex := 193, attributes := #[] }, { accessFlags := 26, nameIndex := 197, descriptorIndex := 193, attributes := #[] }, { accessFlags := 26, nameIndex := 18, descriptorIndex := 19, attributes := #[] }, { accessFlags := 26, nameIndex := 90, descriptorIndex := 19, attributes := #[] }, { accessFlags := 26, nameIndex := 147, descriptorIndex := 19, attributes := #[] }, { accessFlags := 18, nameIndex := 11, descriptorIndex := 12, attributes := #[] }])
  fields := #[{ name := "PREFIX", type := (.object "java/lang/String"), accessFlags := 26, slot := 0, constantValue := 0 }, { name := "NAME", type := (.object "java/lang/String"), accessFlags := 26, slot := 1, constantValue := 0 }, { name := "LABEL", type := (.object "java/util/regex/Pattern"), accessFlags := 26, slot := 2, constantValue := 0 }, { name := "LEADING", type := (.object "java/util/regex/Pattern"), accessFlags := 26, slot := 3, constantValue := 0 }, { name := "GLUED", type := (.object "java/util/regex/Pattern"), accessFlags := 26, slot := 4, constantValue := 0 }, { name := "counts", type := (.object "java/util/Map"), accessFlags := 18, slot := 0, constantValue := 0 }]
  methods := #[k8m0]
  instanceTypes := #[(.object "java/util/Map")]
  staticTypes := #[(.object "java/lang/String"), (.object "java/lang/String"), (.object "java/util/regex/Pattern"), (.object "java/util/regex/Pattern"), (.object "java/util/regex/Pattern")]
  resolved := Array.replicate 253 none
  statics := none }

def pool9 : Array CpInfo := pool [(1, .class_ 2), (0, u "java/lang/String"), (1, .class_ 6), (1, u "java/lang/Object"), (0, u "<init>"), (0, u "()V"), (0, .methodref 1 10), (0, .nameAndType 11 12), (0, u "checkIndex"), (0, u "(II)V"), (1, .class_ 16), (1, u "java/lang/StringLatin1"), (21, .methodref 39 40), (0, .class_ 41), (0, .nameAndType 42 43), (0, u "java/lang/Math"), (0, u "min"), (0, u "(II)I"), (9, u "([BI)C"), (34, .methodref 14 89), (0, .nameAndType 90 91), (0, u "canEncode"), (0, u "(I)Z"), (20, .methodref 1 113), (0, .nameAndType 7 114), (0, u "([BB)V"), (6, u "$assertionsDisabled"), (0, u "Z"), (8, .class_ 133), (1, u "java/util/Arrays"), (17, .string 152), (0, u ""), (43, u "newString"), (0, u "([BII)Ljava/lang/String;"), (23, .class_ 223), (1, u "java/lang/StringLatin1$LinesSpliterator"), (8, .methodref 131 233), (0, .nameAndType 234 235), (0, u "copyOfRange"), (0, u "([BII)[B"), (16, u "charAt"), (8, u "([BII)I"), (47, u "lastIndexOf"), (80, .class_ 391), (0, u "java/lang/StringLatin1$CharsSpliterator")] 3

def k9m0 : Method := { name := "<init>", desc := "()V", sig := { parameters := [], returnType := none }, accessFlags := 0, code := none }
def k9c1 : Code := { maxStack := 2, maxLocals := 2, code := jdk_43_method_2_code, exceptionTable := #[], attributes := #[] }
def k9m1 : Method := { name := "charAt", desc := "([BI)C", sig := { parameters := [(.array .byte), .int], returnType := some .char }, accessFlags := 9, code := some k9c1 }
def k9c2 : Code := { maxStack := 2, maxLocals := 1, code := jdk_43_method_4_code, exceptionTable := #[], attributes := #[] }
def k9m2 : Method := { name := "canEncode", desc := "(I)Z", sig := { parameters := [.int], returnType := some .boolean }, accessFlags := 9, code := some k9c2 }
def k9c3 : Code := { maxStack := 3, maxLocals := 4, code := jdk_43_method_27_code, exceptionTable := #[], attributes := #[] }
def k9m3 : Method := { name := "lastIndexOf", desc := "([BII)I", sig := { parameters := [(.array .byte), .int, .int], returnType := some .int }, accessFlags := 9, code := some k9c3 }
def k9c4 : Code := { maxStack := 6, maxLocals := 3, code := jdk_43_method_47_code, exceptionTable := #[], attributes := #[] }
def k9m4 : Method := { name := "newString", desc := "([BII)Ljava/lang/String;", sig := { parameters := [(.array .byte), .int, .int], returnType := some (.object "java/lang/String") }, accessFlags := 9, code := some k9c4 }
/-- java/lang/StringLatin1 -/
def k9 : Class := { plain "java/lang/StringLatin1" (some 0) with
  accessFlags := 48
  interfaces := #[]
  cf := some (fileOf pool9 14 #[.nestMembers #[390, 221]] #[{ accessFlags := 0, nameIndex := 7, descriptorIndex := 8, attributes := #[] }, { accessFlags := 9, nameIndex := 252, descriptorIndex := 53, attributes := #[] }, { accessFlags := 9, nameIndex := 90, descriptorIndex := 91, attributes := #[] }, { accessFlags := 9, nameIndex := 309, descriptorIndex := 261, attributes := #[] }, { accessFlags := 9, nameIndex := 196, descriptorIndex := 197, attributes := #[] }] 48 4 #[] #[{ accessFlags := 4120, nameIndex := 121, descriptorIndex := 122, attributes := #[] }])
  fields := #[{ name := "$assertionsDisabled", type := .boolean, accessFlags := 4120, slot := 0, constantValue := 0 }]
  methods := #[k9m0, k9m1, k9m2, k9m3, k9m4]
  instanceTypes := #[]
  staticTypes := #[.boolean]
  resolved := Array.replicate 395 none
  statics := none }

def pool10 : Array CpInfo := pool [(1, .class_ 2), (0, u "java/lang/Math"), (1, .class_ 6), (1, u "java/lang/Object"), (0, u "<init>"), (0, u "()V"), (89, .class_ 100), (1, u "java/lang/Math$RandomNumberGeneratorHolder"), (71, u "negativeZeroFloatBits"), (0, u "J"), (2, u "negativeZeroDoubleBits"), (24, u "min"), (43, u "$assertionsDisabled"), (0, u "Z"), (88, u "(II)I"), (2, u "twoToTheDoubleScaleDown"), (0, u "D"), (4, u "twoToTheDoubleScaleUp"), (9, u "E"), (3, u "PI"), (2, u "TAU"), (2, u "DEGREES_TO_RADIANS"), (0, u "RADIANS_TO_DEGREES")] 94

def k10m0 : Method := { name := "<init>", desc := "()V", sig := { parameters := [], returnType := none }, accessFlags := 2, code := none }
def k10c1 : Code := { maxStack := 2, maxLocals := 2, code := jdk_29_method_69_code, exceptionTable := #[], attributes := #[] }
def k10m1 : Method := { name := "min", desc := "(II)I", sig := { parameters := [.int, .int], returnType := some .int }, accessFlags := 9, code := some k10c1 }
/-- java/lang/Math -/
def k10 : Class := { plain "java/lang/Math" (some 0) with
  accessFlags := 49
  interfaces := #[]
  cf := some (fileOf pool10 1 #[.nestMembers #[98]] #[{ accessFlags := 2, nameIndex := 7, descriptorIndex := 8, attributes := #[] }, { accessFlags := 9, nameIndex := 201, descriptorIndex := 335, attributes := #[] }] 49 4 #[] #[{ accessFlags := 25, nameIndex := 354, descriptorIndex := 339, attributes := #[] }, { accessFlags := 25, nameIndex := 358, descriptorIndex := 339, attributes := #[] }, { accessFlags := 25, nameIndex := 361, descriptorIndex := 339, attributes := #[] }, { accessFlags := 26, nameIndex := 364, descriptorIndex := 339, attributes := #[] }, { accessFlags := 26, nameIndex := 365, descriptorIndex := 339, attributes := #[] }, { accessFlags := 26, nameIndex := 172, descriptorIndex := 173, attributes := #[] }, { accessFlags := 26, nameIndex := 176, descriptorIndex := 173, attributes := #[] }, { accessFlags := 8, nameIndex := 344, descriptorIndex := 339, attributes := #[] }, { accessFlags := 8, nameIndex := 338, descriptorIndex := 339, attributes := #[] }, { accessFlags := 4120, nameIndex := 245, descriptorIndex := 246, attributes := #[] }])
  fields := #[{ name := "E", type := .double, accessFlags := 25, slot := 0, constantValue := 0 }, { name := "PI", type := .double, accessFlags := 25, slot := 1, constantValue := 0 }, { name := "TAU", type := .double, accessFlags := 25, slot := 2, constantValue := 0 }, { name := "DEGREES_TO_RADIANS", type := .double, accessFlags := 26, slot := 3, constantValue := 0 }, { name := "RADIANS_TO_DEGREES", type := .double, accessFlags := 26, slot := 4, constantValue := 0 }, { name := "negativeZeroFloatBits", type := .long, accessFlags := 26, slot := 5, constantValue := 0 }, { name := "negativeZeroDoubleBits", type := .long, accessFlags := 26, slot := 6, constantValue := 0 }, { name := "twoToTheDoubleScaleUp", type := .double, accessFlags := 8, slot := 7, constantValue := 0 }, { name := "twoToTheDoubleScaleDown", type := .double, accessFlags := 8, slot := 8, constantValue := 0 }, { name := "$assertionsDisabled", type := .boolean, accessFlags := 4120, slot := 9, constantValue := 0 }]
  methods := #[k10m0, k10m1]
  instanceTypes := #[]
  staticTypes := #[.double, .double, .double, .double, .double, .long, .long, .double, .double, .boolean]
  resolved := Array.replicate 460 none
  statics := none }

def pool11 : Array CpInfo := pool [(2, .class_ 4), (1, u "java/lang/Object"), (0, u "<init>"), (0, u "()V"), (17, .class_ 26), (1, u "jdk/internal/util/Preconditions"), (6, u "checkIndex"), (13, u "checkFromToIndex"), (7, .class_ 56), (0, u "jdk/internal/util/Preconditions$4"), (57, .class_ 115), (0, u "jdk/internal/util/Preconditions$1"), (7, u "SIOOBE_FORMATTER"), (0, u "Ljava/util/function/BiFunction;"), (0, .class_ 126), (0, u "jdk/internal/util/Preconditions$2"), (3, u "AIOOBE_FORMATTER"), (0, .class_ 132), (0, u "jdk/internal/util/Preconditions$3"), (3, u "IOOBE_FORMATTER"), (41, u "(IILjava/util/function/BiFunction;)I"), (4, u "(IIILjava/util/function/BiFunction;)I")] 10

def k11m0 : Method := { name := "<init>", desc := "()V", sig := { parameters := [], returnType := none }, accessFlags := 1, code := none }
def k11c1 : Code := { maxStack := 3, maxLocals := 3, code := jdk_41_method_11_code, exceptionTable := #[], attributes := #[] }
def k11m1 : Method := { name := "checkIndex", desc := "(IILjava/util/function/BiFunction;)I", sig := { parameters := [.int, .int, (.object "java/util/function/BiFunction")], returnType := some .int }, accessFlags := 9, code := some k11c1 }
def k11c2 : Code := { maxStack := 4, maxLocals := 4, code := jdk_41_method_12_code, exceptionTable := #[], attributes := #[] }
def k11m2 : Method := { name := "checkFromToIndex", desc := "(IIILjava/util/function/BiFunction;)I", sig := { parameters := [.int, .int, .int, (.object "java/util/function/BiFunction")], returnType := some .int }, accessFlags := 9, code := some k11c2 }
/-- jdk/internal/util/Preconditions -/
def k11 : Class := { plain "jdk/internal/util/Preconditions" (some 0) with
  accessFlags := 33
  interfaces := #[]
  cf := some (fileOf pool11 24 #[.nestMembers #[55, 131, 125, 114]] #[{ accessFlags := 1, nameIndex := 5, descriptorIndex := 6, attributes := #[] }, { accessFlags := 9, nameIndex := 33, descriptorIndex := 178, attributes := #[] }, { accessFlags := 9, nameIndex := 47, descriptorIndex := 183, attributes := #[] }] 33 2 #[] #[{ accessFlags := 25, nameIndex := 123, descriptorIndex := 124, attributes := #[] }, { accessFlags := 25, nameIndex := 130, descriptorIndex := 124, attributes := #[] }, { accessFlags := 25, nameIndex := 136, descriptorIndex := 124, attributes := #[] }])
  fields := #[{ name := "SIOOBE_FORMATTER", type := (.object "java/util/function/BiFunction"), accessFlags := 25, slot := 0, constantValue := 0 }, { name := "AIOOBE_FORMATTER", type := (.object "java/util/function/BiFunction"), accessFlags := 25, slot := 1, constantValue := 0 }, { name := "IOOBE_FORMATTER", type := (.object "java/util/function/BiFunction"), accessFlags := 25, slot := 2, constantValue := 0 }]
  methods := #[k11m0, k11m1, k11m2]
  instanceTypes := #[]
  staticTypes := #[(.object "java/util/function/BiFunction"), (.object "java/util/function/BiFunction"), (.object "java/util/function/BiFunction")]
  resolved := Array.replicate 194 none
  statics := some 1 }

def pool12 : Array CpInfo := pool [(6, .class_ 8), (1, u "java/lang/Object"), (0, u "<init>"), (0, u "()V"), (1, .class_ 14), (1, u "java/lang/StringUTF16"), (31, u "$assertionsDisabled"), (0, u "Z"), (13, u "HI_BYTE_SHIFT"), (0, u "I"), (2, u "LO_BYTE_SHIFT"), (49, .methodref 12 116), (0, .nameAndType 117 118), (0, u "compress"), (0, u "([CI[BII)I"), (3, u "([CII)[B"), (138, u "coderFromArrayLen"), (0, u "([BI)B"), (106, .class_ 371), (1, u "java/lang/StringUTF16$LinesSpliterator"), (58, u "MAX_LENGTH"), (196, .class_ 628), (0, u "java/lang/StringUTF16$CodePointsSpliterator"), (0, .class_ 630), (0, u "java/lang/StringUTF16$CharsSpliterator")] 4

def k12m0 : Method := { name := "<init>", desc := "()V", sig := { parameters := [], returnType := none }, accessFlags := 0, code := none }
def k12c1 : Code := { maxStack := 2, maxLocals := 2, code := jdk_52_method_15_code, exceptionTable := #[], attributes := #[] }
def k12m1 : Method := { name := "coderFromArrayLen", desc := "([BI)B", sig := { parameters := [(.array .byte), .int], returnType := some .byte }, accessFlags := 8, code := some k12c1 }
def k12c2 : Code := { maxStack := 5, maxLocals := 6, code := jdk_52_method_16_code, exceptionTable := #[], attributes := #[] }
def k12m2 : Method := { name := "compress", desc := "([CII)[B", sig := { parameters := [(.array .char), .int, .int], returnType := some (.array .byte) }, accessFlags := 9, code := some k12c2 }
def k12c3 : Code := { maxStack := 3, maxLocals := 7, code := jdk_52_method_21_code, exceptionTable := #[], attributes := #[] }
def k12m3 : Method := { name := "compress", desc := "([CI[BII)I", sig := { parameters := [(.array .char), .int, (.array .byte), .int, .int], returnType := some .int }, accessFlags := 9, code := some k12c3 }
/-- java/lang/StringUTF16 -/
def k12 : Class := { plain "java/lang/StringUTF16" (some 0) with
  accessFlags := 48
  interfaces := #[]
  cf := some (fileOf pool12 12 #[.nestMembers #[627, 629, 369]] #[{ accessFlags := 0, nameIndex := 9, descriptorIndex := 10, attributes := #[] }, { accessFlags := 8, nameIndex := 261, descriptorIndex := 262, attributes := #[] }, { accessFlags := 9, nameIndex := 117, descriptorIndex := 122, attributes := #[] }, { accessFlags := 9, nameIndex := 117, descriptorIndex := 118, attributes := #[] }] 48 6 #[] #[{ accessFlags := 26, nameIndex := 61, descriptorIndex := 62, attributes := #[] }, { accessFlags := 26, nameIndex := 65, descriptorIndex := 62, attributes := #[] }, { accessFlags := 24, nameIndex := 430, descriptorIndex := 62, attributes := #[] }, { accessFlags := 4120, nameIndex := 46, descriptorIndex := 47, attributes := #[] }])
  fields := #[{ name := "HI_BYTE_SHIFT", type := .int, accessFlags := 26, slot := 0, constantValue := 0 }, { name := "LO_BYTE_SHIFT", type := .int, accessFlags := 26, slot := 1, constantValue := 0 }, { name := "MAX_LENGTH", type := .int, accessFlags := 24, slot := 2, constantValue := 0 }, { name := "$assertionsDisabled", type := .boolean, accessFlags := 4120, slot := 3, constantValue := 0 }]
  methods := #[k12m0, k12m1, k12m2, k12m3]
  instanceTypes := #[]
  staticTypes := #[.int, .int, .int, .boolean]
  resolved := Array.replicate 635 none
  statics := none }

def pool13 : Array CpInfo := pool [(2, .class_ 4), (1, u "java/lang/Object"), (0, u "<init>"), (0, u "()V"), (7, .class_ 16), (1, u "java/util/Arrays"), (57, .class_ 76), (1, u "java/util/Arrays$NaturalOrder"), (36, .class_ 115), (1, u "java/util/Arrays$LegacyMergeSort"), (1, u "Z"), (21, u "copyOfRange"), (10, .methodref 151 152), (0, .class_ 153), (0, .nameAndType 154 155), (0, u "java/lang/System"), (0, u "arraycopy"), (0, u "(Ljava/lang/Object;ILjava/lang/Object;II)V"), (148, .methodref 305 306), (0, .class_ 307), (0, .nameAndType 308 309), (0, u "java/lang/Math"), (0, u "min"), (0, u "(II)I"), (29, .methodref 14 340), (0, .nameAndType 341 342), (0, u "copyOfRangeByte"), (0, u "([BII)[B"), (0, .methodref 14 344), (0, .nameAndType 345 346), (0, u "checkLength"), (0, u "(II)V"), (28, .class_ 376), (0, u "java/util/Arrays$ArrayList"), (68, u "$assertionsDisabled"), (269, u "MIN_ARRAY_SORT_GRAN"), (0, u "I"), (2, u "INSERTIONSORT_THRESHOLD"), (255, .class_ 976), (0, u "java/util/Arrays$ArrayItr")] 52

def k13m0 : Method := { name := "<init>", desc := "()V", sig := { parameters := [], returnType := none }, accessFlags := 2, code := none }
def k13c1 : Code := { maxStack := 4, maxLocals := 2, code := jdk_65_method_131_code, exceptionTable := #[], attributes := #[] }
def k13m1 : Method := { name := "checkLength", desc := "(II)V", sig := { parameters := [.int, .int], returnType := none }, accessFlags := 10, code := some k13c1 }
def k13c2 : Code := { maxStack := 3, maxLocals := 3, code := jdk_65_method_132_code, exceptionTable := #[], attributes := #[] }
def k13m2 : Method := { name := "copyOfRange", desc := "([BII)[B", sig := { parameters := [(.array .byte), .int, .int], returnType := some (.array .byte) }, accessFlags := 9, code := some k13c2 }
def k13c3 : Code := { maxStack := 6, maxLocals := 5, code := jdk_65_method_133_code, exceptionTable := #[], attributes := #[] }
def k13m3 : Method := { name := "copyOfRangeByte", desc := "([BII)[B", sig := { parameters := [(.array .byte), .int, .int], returnType := some (.array .byte) }, accessFlags := 10, code := some k13c3 }
/-- java/util/Arrays -/
def k13 : Class := { plain "java/util/Arrays" (some 0) with
  accessFlags := 49
  interfaces := #[]
  cf := some (fileOf pool13 14 #[.nestMembers #[975, 375, 113, 74]] #[{ accessFlags := 2, nameIndex := 5, descriptorIndex := 6, attributes := #[] }, { accessFlags := 10, nameIndex := 345, descriptorIndex := 346, attributes := #[] }, { accessFlags := 9, nameIndex := 139, descriptorIndex := 342, attributes := #[] }, { accessFlags := 10, nameIndex := 341, descriptorIndex := 342, attributes := #[] }] 49 2 #[] #[{ accessFlags := 26, nameIndex := 715, descriptorIndex := 716, attributes := #[] }, { accessFlags := 26, nameIndex := 719, descriptorIndex := 716, attributes := #[] }, { accessFlags := 4120, nameIndex := 445, descriptorIndex := 117, attributes := #[] }])
  fields := #[{ name := "MIN_ARRAY_SORT_GRAN", type := .int, accessFlags := 26, slot := 0, constantValue := 0 }, { name := "INSERTIONSORT_THRESHOLD", type := .int, accessFlags := 26, slot := 1, constantValue := 0 }, { name := "$assertionsDisabled", type := .boolean, accessFlags := 4120, slot := 2, constantValue := 0 }]
  methods := #[k13m0, k13m1, k13m2, k13m3]
  instanceTypes := #[]
  staticTypes := #[.int, .int, .boolean]
  resolved := Array.replicate 1029 none
  statics := none }

def pool14 : Array CpInfo := pool [(2, .class_ 4), (1, u "java/lang/Object"), (0, u "<init>"), (0, u "()V"), (1, .class_ 10), (1, u "java/lang/System"), (0, u "allowSecurityManager"), (0, u "I"), (16, u "cons"), (0, u "Ljava/io/Console;"), (77, .class_ 110), (1, u "java/lang/System$CallersHolder"), (43, u "initialErrStream"), (0, u "Ljava/io/PrintStream;"), (19, u "security"), (0, u "Ljava/lang/SecurityManager;"), (31, .class_ 209), (0, u "java/lang/System$1"), (7, u "props"), (0, u "Ljava/util/Properties;"), (2, u "lineSeparator"), (0, u "Ljava/lang/String;"), (96, .class_ 321), (1, u "java/lang/System$LoggerFinder"), (5, .class_ 328), (0, u "java/lang/System$Logger"), (67, u "err"), (2, u "out"), (91, u "notSupportedJnuEncoding"), (15, u "in"), (17, u "initialIn"), (0, u "Ljava/io/InputStream;"), (35, u "bootLayer"), (0, u "Ljava/lang/ModuleLayer;"), (99, .class_ 664), (0, u "java/lang/System$2"), (9, u "NEVER"), (2, u "MAYBE"), (49, u "arraycopy"), (0, u "(Ljava/lang/Object;ILjava/lang/Object;II)V"), (72, .class_ 802), (0, u "java/lang/System$Logger$Level")] 31

def k14m0 : Method := { name := "<init>", desc := "()V", sig := { parameters := [], returnType := none }, accessFlags := 2, code := none }
def k14m1 : Method := { name := "arraycopy", desc := "(Ljava/lang/Object;ILjava/lang/Object;II)V", sig := { parameters := [(.object "java/lang/Object"), .int, (.object "java/lang/Object"), .int, .int], returnType := none }, accessFlags := 265, code := none }
/-- java/lang/System -/
def k14 : Class := { plain "java/lang/System" (some 0) with
  accessFlags := 49
  interfaces := #[]
  cf := some (fileOf pool14 8 #[.nestMembers #[319, 327, 801, 108, 663, 208]] #[{ accessFlags := 2, nameIndex := 5, descriptorIndex := 6, attributes := #[] }, { accessFlags := 265, nameIndex := 727, descriptorIndex := 728, attributes := #[] }] 49 2 #[] #[{ accessFlags := 25, nameIndex := 507, descriptorIndex := 526, attributes := #[] }, { accessFlags := 25, nameIndex := 399, descriptorIndex := 155, attributes := #[] }, { accessFlags := 25, nameIndex := 396, descriptorIndex := 155, attributes := #[] }, { accessFlags := 10, nameIndex := 525, descriptorIndex := 526, attributes := #[] }, { accessFlags := 26, nameIndex := 674, descriptorIndex := 12, attributes := #[] }, { accessFlags := 26, nameIndex := 677, descriptorIndex := 12, attributes := #[] }, { accessFlags := 10, nameIndex := 11, descriptorIndex := 12, attributes := #[] }, { accessFlags := 74, nameIndex := 175, descriptorIndex := 176, attributes := #[] }, { accessFlags := 10, nameIndex := 491, descriptorIndex := 222, attributes := #[] }, { accessFlags := 74, nameIndex := 29, descriptorIndex := 30, attributes := #[] }, { accessFlags := 74, nameIndex := 154, descriptorIndex := 155, attributes := #[] }, { accessFlags := 10, nameIndex := 217, descriptorIndex := 218, attributes := #[] }, { accessFlags := 10, nameIndex := 221, descriptorIndex := 222, attributes := #[] }, { accessFlags := 8, nameIndex := 562, descriptorIndex := 563, attributes := #[] }])
  fields := #[{ name := "in", type := (.object "java/io/InputStream"), accessFlags := 25, slot := 0, constantValue := 0 }, { name := "out", type := (.object "java/io/PrintStream"), accessFlags := 25, slot := 1, constantValue := 0 }, { name := "err", type := (.object "java/io/PrintStream"), accessFlags := 25, slot := 2, constantValue := 0 }, { name := "initialIn", type := (.object "java/io/InputStream"), accessFlags := 10, slot := 3, constantValue := 0 }, { name := "NEVER", type := .int, accessFlags := 26, slot := 4, constantValue := 0 }, { name := "MAYBE", type := .int, accessFlags := 26, slot := 5, constantValue := 0 }, { name := "allowSecurityManager", type := .int, accessFlags := 10, slot := 6, constantValue := 0 }, { name := "security", type := (.object "java/lang/SecurityManager"), accessFlags := 74, slot := 7, constantValue := 0 }, { name := "notSupportedJnuEncoding", type := (.object "java/lang/String"), accessFlags := 10, slot := 8, constantValue := 0 }, { name := "cons", type := (.object "java/io/Console"), accessFlags := 74, slot := 9, constantValue := 0 }, { name := "initialErrStream", type := (.object "java/io/PrintStream"), accessFlags := 74, slot := 10, constantValue := 0 }, { name := "props", type := (.object "java/util/Properties"), accessFlags := 10, slot := 11, constantValue := 0 }, { name := "lineSeparator", type := (.object "java/lang/String"), accessFlags := 10, slot := 12, constantValue := 0 }, { name := "bootLayer", type := (.object "java/lang/ModuleLayer"), accessFlags := 8, slot := 13, constantValue := 0 }]
  methods := #[k14m0, k14m1]
  instanceTypes := #[]
  staticTypes := #[(.object "java/io/InputStream"), (.object "java/io/PrintStream"), (.object "java/io/PrintStream"), (.object "java/io/InputStream"), .int, .int, .int, (.object "java/lang/SecurityManager"), (.object "java/lang/String"), (.object "java/io/Console"), (.object "java/io/PrintStream"), (.object "java/util/Properties"), (.object "java/lang/String"), (.object "java/lang/ModuleLayer")]
  resolved := Array.replicate 834 none
  statics := none }

def pool15 : Array CpInfo := pool [(9, u "<init>"), (6, .class_ 18), (1, u "java/lang/Object"), (0, u "()V"), (1, .class_ 23), (1, u "jdk/internal/util/ArraysSupport"), (0, u "LOG2_ARRAY_LONG_INDEX_SCALE"), (0, u "I"), (2, u "U"), (0, u "Ljdk/internal/misc/Unsafe;"), (8, u "BIG_ENDIAN"), (0, u "Z"), (8, u "LOG2_BYTE_BIT_SIZE"), (4, u "LOG2_ARRAY_INT_INDEX_SCALE"), (54, u "JLA"), (0, u "Ljdk/internal/access/JavaLangAccess;"), (11, u "LOG2_ARRAY_BOOLEAN_INDEX_SCALE"), (9, u "LOG2_ARRAY_BYTE_INDEX_SCALE"), (5, u "LOG2_ARRAY_CHAR_INDEX_SCALE"), (5, u "LOG2_ARRAY_SHORT_INDEX_SCALE"), (18, u "LOG2_ARRAY_FLOAT_INDEX_SCALE"), (24, u "LOG2_ARRAY_DOUBLE_INDEX_SCALE"), (89, u "T_BOOLEAN"), (2, u "T_CHAR"), (1, u "T_FLOAT"), (1, u "T_DOUBLE"), (1, u "T_BYTE"), (1, u "T_SHORT"), (1, u "T_INT"), (1, u "T_LONG"), (1, u "SOFT_MAX_ARRAY_LENGTH")] 83

def k15m0 : Method := { name := "<init>", desc := "()V", sig := { parameters := [], returnType := none }, accessFlags := 2, code := none }
/-- jdk/internal/util/ArraysSupport -/
def k15 : Class := { plain "jdk/internal/util/ArraysSupport" (some 0) with
  accessFlags := 33
  interfaces := #[]
  cf := some (fileOf pool15 21 #[] #[{ accessFlags := 2, nameIndex := 9, descriptorIndex := 19, attributes := #[] }] 33 16 #[] #[{ accessFlags := 24, nameIndex := 28, descriptorIndex := 29, attributes := #[] }, { accessFlags := 26, nameIndex := 38, descriptorIndex := 39, attributes := #[] }, { accessFlags := 25, nameIndex := 121, descriptorIndex := 25, attributes := #[] }, { accessFlags := 25, nameIndex := 131, descriptorIndex := 25, attributes := #[] }, { accessFlags := 25, nameIndex := 137, descriptorIndex := 25, attributes := #[] }, { accessFlags := 25, nameIndex := 143, descriptorIndex := 25, attributes := #[] }, { accessFlags := 25, nameIndex := 53, descriptorIndex := 25, attributes := #[] }, { accessFlags := 25, nameIndex := 24, descriptorIndex := 25, attributes := #[] }, { accessFlags := 25, nameIndex := 162, descriptorIndex := 25, attributes := #[] }, { accessFlags := 25, nameIndex := 187, descriptorIndex := 25, attributes := #[] }, { accessFlags := 26, nameIndex := 48, descriptorIndex := 25, attributes := #[] }, { accessFlags := 25, nameIndex := 277, descriptorIndex := 25, attributes := #[] }, { accessFlags := 25, nameIndex := 280, descriptorIndex := 25, attributes := #[] }, { accessFlags := 25, nameIndex := 282, descriptorIndex := 25, attributes := #[] }, { accessFlags := 25, nameIndex := 284, descriptorIndex := 25, attributes := #[] }, { accessFlags := 25, nameIndex := 286, descriptorIndex := 25, attributes := #[] }, { accessFlags := 25, nameIndex := 288, descriptorIndex := 25, attributes := #[] }, { accessFlags := 25, nameIndex := 290, descriptorIndex := 25, attributes := #[] }, { accessFlags := 25, nameIndex := 292, descriptorIndex := 25, attributes := #[] }, { accessFlags := 26, nameIndex := 108, descriptorIndex := 109, attributes := #[] }, { accessFlags := 25, nameIndex := 294, descriptorIndex := 25, attributes := #[] }])
  fields := #[{ name := "U", type := (.object "jdk/internal/misc/Unsafe"), accessFlags := 24, slot := 0, constantValue := 0 }, { name := "BIG_ENDIAN", type := .boolean, accessFlags := 26, slot := 1, constantValue := 0 }, { name := "LOG2_ARRAY_BOOLEAN_INDEX_SCALE", type := .int, accessFlags := 25, slot := 2, constantValue := 0 }, { name := "LOG2_ARRAY_BYTE_INDEX_SCALE", type := .int, accessFlags := 25, slot := 3, constantValue := 0 }, { name := "LOG2_ARRAY_CHAR_INDEX_SCALE", type := .int, accessFlags := 25, slot := 4, constantValue := 0 }, { name := "LOG2_ARRAY_SHORT_INDEX_SCALE", type := .int, accessFlags := 25, slot := 5, constantValue := 0 }, { name := "LOG2_ARRAY_INT_INDEX_SCALE", type := .int, accessFlags := 25, slot := 6, constantValue := 0 }, { name := "LOG2_ARRAY_LONG_INDEX_SCALE", type := .int, accessFlags := 25, slot := 7, constantValue := 0 }, { name := "LOG2_ARRAY_FLOAT_INDEX_SCALE", type := .int, accessFlags := 25, slot := 8, constantValue := 0 }, { name := "LOG2_ARRAY_DOUBLE_INDEX_SCALE", type := .int, accessFlags := 25, slot := 9, constantValue := 0 }, { name := "LOG2_BYTE_BIT_SIZE", type := .int, accessFlags := 26, slot := 10, constantValue := 0 }, { name := "T_BOOLEAN", type := .int, accessFlags := 25, slot := 11, constantValue := 0 }, { name := "T_CHAR", type := .int, accessFlags := 25, slot := 12, constantValue := 0 }, { name := "T_FLOAT", type := .int, accessFlags := 25, slot := 13, constantValue := 0 }, { name := "T_DOUBLE", type := .int, accessFlags := 25, slot := 14, constantValue := 0 }, { name := "T_BYTE", type := .int, accessFlags := 25, slot := 15, constantValue := 0 }, { name := "T_SHORT", type := .int, accessFlags := 25, slot := 16, constantValue := 0 }, { name := "T_INT", type := .int, accessFlags := 25, slot := 17, constantValue := 0 }, { name := "T_LONG", type := .int, accessFlags := 25, slot := 18, constantValue := 0 }, { name := "JLA", type := (.object "jdk/internal/access/JavaLangAccess"), accessFlags := 26, slot := 19, constantValue := 0 }, { name := "SOFT_MAX_ARRAY_LENGTH", type := .int, accessFlags := 25, slot := 20, constantValue := 0 }]
  methods := #[k15m0]
  instanceTypes := #[]
  staticTypes := #[(.object "jdk/internal/misc/Unsafe"), .boolean, .int, .int, .int, .int, .int, .int, .int, .int, .int, .int, .int, .int, .int, .int, .int, .int, .int, (.object "jdk/internal/access/JavaLangAccess"), .int]
  resolved := Array.replicate 378 none
  statics := none }

def pool16 : Array CpInfo := pool [(1, u "java/lang/Cloneable"), (0, .class_ 1), (0, u "java/lang/Object"), (0, .class_ 3)] 3

/-- java/lang/Cloneable -/
def k16 : Class := { plain "java/lang/Cloneable" (some 0) with
  accessFlags := 1537
  interfaces := #[]
  cf := some (fileOf pool16 2 #[] #[] 1537 4 #[] #[])
  fields := #[]
  methods := #[]
  instanceTypes := #[]
  staticTypes := #[]
  resolved := Array.replicate 8 none
  statics := none }

/-- the primitive byte -/
def k17 : Class := { plain "byte" none with kind := .primitive 'B', accessFlags := 0x411 }
/-- [B -/
def k18 : Class := { plain "[B" (some 0) with kind := .array 17 .byte, interfaces := #[16, 2], accessFlags := 1041 }

/-- the primitive char -/
def k19 : Class := { plain "char" none with kind := .primitive 'C', accessFlags := 0x411 }
/-- [C -/
def k20 : Class := { plain "[C" (some 0) with kind := .array 19 .char, interfaces := #[16, 2], accessFlags := 1041 }

/-- the primitive int -/
def k21 : Class := { plain "int" none with kind := .primitive 'I', accessFlags := 0x411 }
/-- [I -/
def k22 : Class := { plain "[I" (some 0) with kind := .array 21 .int, interfaces := #[16, 2], accessFlags := 1041 }

def heap : Heap := #[{ cls := 7, slots := #[.long 0, .int 1, .null, .int 0, .null, .int 0, .int 0], vm := .statics 7 },
  { cls := 11, slots := #[.null, .null, .null], vm := .statics 11 }]
def classes : Array Class := #[k0, k1, k2, k3, k4, k5, k6, k7, k8, k9, k10, k11, k12, k13, k14, k15, k16, k17, k18, k19, k20, k21, k22]
def interned : List (Array UInt16 × Addr) := []
def slotsUsed : Nat := 10
def theMethod : MethodId := ⟨1, 2⟩
def args0 : Array Value := #[.int 1, .int 1, .int 1, .int 1, .int 1]
def aboutOver (below : List Frame) : State where
  vm := { classes := classes, interned := interned.toArray }
  heap := heap
  slotsUsed := slotsUsed
  threads := #[{ frames := .invoking theMethod args0 :: below }]
def below0 : List Frame := [.native { method := ⟨0, 0⟩, args := #[] }]
def about1 : State := aboutOver below0
def p0 : Program := .bare "" "" ""
def e0 : Env := launch0.env 0 0 0
theorem w_frames : about1.frames = Frame.invoking theMethod args0 :: below0 := rfl
set_option maxRecDepth 65536 in
theorem w_args : argsFit about1.vm theMethod args0 = true := by decide +kernel
set_option maxRecDepth 65536 in
theorem w_heap : heapFits about1 = true := by decide +kernel
set_option maxRecDepth 65536 in
theorem w_runnable : about1.curStatus? = some .runnable := by decide +kernel
set_option maxRecDepth 65536 in
theorem w_alone : about1.alone = true := by decide +kernel
set_option maxRecDepth 65536 in
theorem w_named : about1.methodNamed? x = some theMethod := by decide +kernel
set_option maxRecDepth 65536 in
theorem w_hears : about1.hears theMethod below0 = true := by decide +kernel
set_option maxRecDepth 65536 in
theorem w_ripe : about1.ripe theMethod args0 below0 = true := by decide +kernel
theorem w_running : about1.status = .running := rfl
set_option maxRecDepth 65536 in
theorem w_room : about1.hasRoom e0.platform room_1 = true :=
  launch0.hasRoom_least _ room_1 (by decide +kernel) (by decide +kernel) (by decide +kernel) (by decide +kernel) (by decide +kernel) (by decide +kernel)
theorem allAtoms_all (ts : List Jvm.Cond) (a : Array Jvm.Value) (st : Jvm.State) : (allAtoms ts).before a st = ts.all (fun c => c.before a st) := by
  induction ts with
  | nil => rfl
  | cons c t ih =>
    show (Jvm.Cond.and c (allAtoms t)).before a st = _
    rw [Jvm.Cond.before_and, ih, List.all_cons]
def words1 : List Jvm.Cond := Jvm.Cond.code x code maxLocals ret :: tables_1
/-- a 'code' word, met by the world's own term for the bytes: nothing is compared byte by byte -/
theorem code_word {y : MethodName} {bytes : ByteArray} {mx : Nat} {rt : Option FieldType} {a : Array Value} {s : State} {m : MethodId} {meth : Method} {c : Code} (h1 : s.methodNamed? y = some m) (h2 : s.vm.method? m = some meth) (h3 : meth.code = some c) (h4 : c.code = bytes)
    (h5 : (c.maxLocals == mx && c.exceptionTable.isEmpty && decide (c.maxStack ≤ mostOperands) && decide (meth.sig.returnType = rt) && !meth.locks && decide (parseMethodDescriptor y.desc = some meth.sig)) = true) : (Jvm.Cond.code y bytes mx rt).before a s = true := by
  simp only [Bool.and_eq_true, beq_iff_eq, Bool.not_eq_true', decide_eq_true_eq] at h5
  obtain ⟨⟨⟨⟨⟨g1, g2⟩, g3⟩, g4⟩, g5⟩, g6⟩ := h5
  simp [Cond.before, Cond.holds, Cond.value, h1, h2, h3, h4, g1, g2, g3, g4, g5, g6]
def isCode : Jvm.Cond → Bool
  | .code _ _ _ _ => true
  | _ => false
theorem all_split {L : List Jvm.Cond} {P : Jvm.Cond → Bool} (h1 : L.all (fun c => isCode c || P c) = true) (h2 : ∀ c ∈ L.filter isCode, P c = true) : L.all P = true := by
  refine List.all_eq_true.mpr fun c hc => ?_
  have h := List.all_eq_true.mp h1 c hc
  rcases Bool.eq_false_or_eq_true (isCode c) with hi | hi
  · exact h2 c (List.mem_filter.mpr ⟨hc, hi⟩)
  · simpa [hi] using h
set_option maxRecDepth 65536 in
theorem w_c0 : (Jvm.Cond.code x code maxLocals ret).before args0 about1 = true := code_word (m := ⟨1, 2⟩) (meth := k1m2) (c := k1c2) (by decide +kernel) rfl rfl rfl (by decide +kernel)
set_option maxRecDepth 65536 in
theorem w_c1 : (Jvm.Cond.code ({ cls := "com/example/bill_of_claims/billofclaims/labels/LabelWordsPrefixPinLaw", name := "ch", desc := "(I)C" } : Jvm.MethodName) method_2_code (1 : Nat) (Option.some Jvm.ClassFile.FieldType.char)).before args0 about1 = true := code_word (m := ⟨1, 1⟩) (meth := k1m1) (c := k1c1) (by decide +kernel) rfl rfl rfl (by decide +kernel)
set_option maxRecDepth 65536 in
theorem w_c2 : (Jvm.Cond.code ({ cls := "java/lang/String", name := "<init>", desc := "([C)V" } : Jvm.MethodName) jdk_42_method_3_code (2 : Nat) (Option.none : Option Jvm.ClassFile.FieldType)).before args0 about1 = true := code_word (m := ⟨7, 1⟩) (meth := k7m1) (c := k7c1) (by decide +kernel) rfl rfl rfl (by decide +kernel)
set_option maxRecDepth 65536 in
theorem w_c3 : (Jvm.Cond.code ({ cls := "java/lang/String", name := "<init>", desc := "([CIILjava/lang/Void;)V" } : Jvm.MethodName) jdk_42_method_149_code (6 : Nat) (Option.none : Option Jvm.ClassFile.FieldType)).before args0 about1 = true := code_word (m := ⟨7, 7⟩) (meth := k7m7) (c := k7c7) (by decide +kernel) rfl rfl rfl (by decide +kernel)
set_option maxRecDepth 65536 in
theorem w_c4 : (Jvm.Cond.code ({ cls := "java/lang/Object", name := "<init>", desc := "()V" } : Jvm.MethodName) object_method_1_code (1 : Nat) (Option.none : Option Jvm.ClassFile.FieldType)).before args0 about1 = true := code_word (m := ⟨0, 0⟩) (meth := k0m0) (c := k0c0) (by decide +kernel) rfl rfl rfl (by decide +kernel)
set_option maxRecDepth 65536 in
theorem w_c5 : (Jvm.Cond.code ({ cls := "com/example/bill_of_claims/billofclaims/labels/LabelWords", name := "prefix", desc := "(Ljava/lang/String;)Ljava/lang/String;" } : Jvm.MethodName) prog_41_method_5_code (1 : Nat) (Option.some (Jvm.ClassFile.FieldType.object "java/lang/String"))).before args0 about1 = true := code_word (m := ⟨8, 0⟩) (meth := k8m0) (c := k8c0) (by decide +kernel) rfl rfl rfl (by decide +kernel)
set_option maxRecDepth 65536 in
theorem w_c6 : (Jvm.Cond.code ({ cls := "java/lang/String", name := "lastIndexOf", desc := "(I)I" } : Jvm.MethodName) jdk_42_method_82_code (2 : Nat) (Option.some Jvm.ClassFile.FieldType.int)).before args0 about1 = true := code_word (m := ⟨7, 4⟩) (meth := k7m4) (c := k7c4) (by decide +kernel) rfl rfl rfl (by decide +kernel)
set_option maxRecDepth 65536 in
theorem w_c7 : (Jvm.Cond.code ({ cls := "java/lang/String", name := "length", desc := "()I" } : Jvm.MethodName) jdk_42_method_54_code (1 : Nat) (Option.some Jvm.ClassFile.FieldType.int)).before args0 about1 = true := code_word (m := ⟨7, 2⟩) (meth := k7m2) (c := k7c2) (by decide +kernel) rfl rfl rfl (by decide +kernel)
set_option maxRecDepth 65536 in
theorem w_c8 : (Jvm.Cond.code ({ cls := "java/lang/String", name := "coder", desc := "()B" } : Jvm.MethodName) jdk_42_method_152_code (1 : Nat) (Option.some Jvm.ClassFile.FieldType.byte)).before args0 about1 = true := code_word (m := ⟨7, 9⟩) (meth := k7m9) (c := k7c9) (by decide +kernel) rfl rfl rfl (by decide +kernel)
set_option maxRecDepth 65536 in
theorem w_c9 : (Jvm.Cond.code ({ cls := "java/lang/String", name := "lastIndexOf", desc := "(II)I" } : Jvm.MethodName) jdk_42_method_83_code (3 : Nat) (Option.some Jvm.ClassFile.FieldType.int)).before args0 about1 = true := code_word (m := ⟨7, 5⟩) (meth := k7m5) (c := k7c5) (by decide +kernel) rfl rfl rfl (by decide +kernel)
set_option maxRecDepth 65536 in
theorem w_c10 : (Jvm.Cond.code ({ cls := "java/lang/String", name := "isLatin1", desc := "()Z" } : Jvm.MethodName) jdk_42_method_154_code (1 : Nat) (Option.some Jvm.ClassFile.FieldType.boolean)).before args0 about1 = true := code_word (m := ⟨7, 10⟩) (meth := k7m10) (c := k7c10) (by decide +kernel) rfl rfl rfl (by decide +kernel)
set_option maxRecDepth 65536 in
theorem w_c11 : (Jvm.Cond.code ({ cls := "java/lang/StringLatin1", name := "lastIndexOf", desc := "([BII)I" } : Jvm.MethodName) jdk_43_method_27_code (4 : Nat) (Option.some Jvm.ClassFile.FieldType.int)).before args0 about1 = true := code_word (m := ⟨9, 3⟩) (meth := k9m3) (c := k9c3) (by decide +kernel) rfl rfl rfl (by decide +kernel)
set_option maxRecDepth 65536 in
theorem w_c12 : (Jvm.Cond.code ({ cls := "java/lang/StringLatin1", name := "canEncode", desc := "(I)Z" } : Jvm.MethodName) jdk_43_method_4_code (1 : Nat) (Option.some Jvm.ClassFile.FieldType.boolean)).before args0 about1 = true := code_word (m := ⟨9, 2⟩) (meth := k9m2) (c := k9c2) (by decide +kernel) rfl rfl rfl (by decide +kernel)
set_option maxRecDepth 65536 in
theorem w_c13 : (Jvm.Cond.code ({ cls := "java/lang/Math", name := "min", desc := "(II)I" } : Jvm.MethodName) jdk_29_method_69_code (2 : Nat) (Option.some Jvm.ClassFile.FieldType.int)).before args0 about1 = true := code_word (m := ⟨10, 1⟩) (meth := k10m1) (c := k10c1) (by decide +kernel) rfl rfl rfl (by decide +kernel)
set_option maxRecDepth 65536 in
theorem w_c14 : (Jvm.Cond.code ({ cls := "java/lang/String", name := "substring", desc := "(II)Ljava/lang/String;" } : Jvm.MethodName) jdk_42_method_92_code (5 : Nat) (Option.some (Jvm.ClassFile.FieldType.object "java/lang/String"))).before args0 about1 = true := code_word (m := ⟨7, 6⟩) (meth := k7m6) (c := k7c6) (by decide +kernel) rfl rfl rfl (by decide +kernel)
set_option maxRecDepth 65536 in
theorem w_c15 : (Jvm.Cond.code ({ cls := "java/lang/String", name := "checkBoundsBeginEnd", desc := "(III)V" } : Jvm.MethodName) jdk_42_method_158_code (3 : Nat) (Option.none : Option Jvm.ClassFile.FieldType)).before args0 about1 = true := code_word (m := ⟨7, 12⟩) (meth := k7m12) (c := k7c12) (by decide +kernel) rfl rfl rfl (by decide +kernel)
set_option maxRecDepth 65536 in
theorem w_c16 : (Jvm.Cond.code ({ cls := "jdk/internal/util/Preconditions", name := "checkFromToIndex", desc := "(IIILjava/util/function/BiFunction;)I" } : Jvm.MethodName) jdk_41_method_12_code (4 : Nat) (Option.some Jvm.ClassFile.FieldType.int)).before args0 about1 = true := code_word (m := ⟨11, 2⟩) (meth := k11m2) (c := k11c2) (by decide +kernel) rfl rfl rfl (by decide +kernel)
set_option maxRecDepth 65536 in
theorem w_c17 : (Jvm.Cond.code ({ cls := "java/lang/StringUTF16", name := "compress", desc := "([CII)[B" } : Jvm.MethodName) jdk_52_method_16_code (6 : Nat) (Option.some (Jvm.ClassFile.FieldType.array Jvm.ClassFile.FieldType.byte))).before args0 about1 = true := code_word (m := ⟨12, 2⟩) (meth := k12m2) (c := k12c2) (by decide +kernel) rfl rfl rfl (by decide +kernel)
set_option maxRecDepth 65536 in
theorem w_c18 : (Jvm.Cond.code ({ cls := "java/lang/StringUTF16", name := "compress", desc := "([CI[BII)I" } : Jvm.MethodName) jdk_52_method_21_code (7 : Nat) (Option.some Jvm.ClassFile.FieldType.int)).before args0 about1 = true := code_word (m := ⟨12, 3⟩) (meth := k12m3) (c := k12c3) (by decide +kernel) rfl rfl rfl (by decide +kernel)
set_option maxRecDepth 65536 in
theorem w_c19 : (Jvm.Cond.code ({ cls := "java/lang/StringUTF16", name := "coderFromArrayLen", desc := "([BI)B" } : Jvm.MethodName) jdk_52_method_15_code (2 : Nat) (Option.some Jvm.ClassFile.FieldType.byte)).before args0 about1 = true := code_word (m := ⟨12, 1⟩) (meth := k12m1) (c := k12c1) (by decide +kernel) rfl rfl rfl (by decide +kernel)
set_option maxRecDepth 65536 in
theorem w_c20 : (Jvm.Cond.code ({ cls := "java/lang/StringLatin1", name := "newString", desc := "([BII)Ljava/lang/String;" } : Jvm.MethodName) jdk_43_method_47_code (3 : Nat) (Option.some (Jvm.ClassFile.FieldType.object "java/lang/String"))).before args0 about1 = true := code_word (m := ⟨9, 4⟩) (meth := k9m4) (c := k9c4) (by decide +kernel) rfl rfl rfl (by decide +kernel)
set_option maxRecDepth 65536 in
theorem w_c21 : (Jvm.Cond.code ({ cls := "java/util/Arrays", name := "copyOfRange", desc := "([BII)[B" } : Jvm.MethodName) jdk_65_method_132_code (3 : Nat) (Option.some (Jvm.ClassFile.FieldType.array Jvm.ClassFile.FieldType.byte))).before args0 about1 = true := code_word (m := ⟨13, 2⟩) (meth := k13m2) (c := k13c2) (by decide +kernel) rfl rfl rfl (by decide +kernel)
set_option maxRecDepth 65536 in
theorem w_c22 : (Jvm.Cond.code ({ cls := "java/util/Arrays", name := "copyOfRangeByte", desc := "([BII)[B" } : Jvm.MethodName) jdk_65_method_133_code (5 : Nat) (Option.some (Jvm.ClassFile.FieldType.array Jvm.ClassFile.FieldType.byte))).before args0 about1 = true := code_word (m := ⟨13, 3⟩) (meth := k13m3) (c := k13c3) (by decide +kernel) rfl rfl rfl (by decide +kernel)
set_option maxRecDepth 65536 in
theorem w_c23 : (Jvm.Cond.code ({ cls := "java/util/Arrays", name := "checkLength", desc := "(II)V" } : Jvm.MethodName) jdk_65_method_131_code (2 : Nat) (Option.none : Option Jvm.ClassFile.FieldType)).before args0 about1 = true := code_word (m := ⟨13, 1⟩) (meth := k13m1) (c := k13c1) (by decide +kernel) rfl rfl rfl (by decide +kernel)
set_option maxRecDepth 65536 in
theorem w_c24 : (Jvm.Cond.code ({ cls := "java/lang/String", name := "<init>", desc := "([BB)V" } : Jvm.MethodName) jdk_42_method_151_code (3 : Nat) (Option.none : Option Jvm.ClassFile.FieldType)).before args0 about1 = true := code_word (m := ⟨7, 8⟩) (meth := k7m8) (c := k7c8) (by decide +kernel) rfl rfl rfl (by decide +kernel)
set_option maxRecDepth 65536 in
theorem w_c25 : (Jvm.Cond.code ({ cls := "java/lang/String", name := "charAt", desc := "(I)C" } : Jvm.MethodName) jdk_42_method_56_code (2 : Nat) (Option.some Jvm.ClassFile.FieldType.char)).before args0 about1 = true := code_word (m := ⟨7, 3⟩) (meth := k7m3) (c := k7c3) (by decide +kernel) rfl rfl rfl (by decide +kernel)
set_option maxRecDepth 65536 in
theorem w_c26 : (Jvm.Cond.code ({ cls := "java/lang/StringLatin1", name := "charAt", desc := "([BI)C" } : Jvm.MethodName) jdk_43_method_2_code (2 : Nat) (Option.some Jvm.ClassFile.FieldType.char)).before args0 about1 = true := code_word (m := ⟨9, 1⟩) (meth := k9m1) (c := k9c1) (by decide +kernel) rfl rfl rfl (by decide +kernel)
set_option maxRecDepth 65536 in
theorem w_c27 : (Jvm.Cond.code ({ cls := "java/lang/String", name := "checkIndex", desc := "(II)V" } : Jvm.MethodName) jdk_42_method_155_code (2 : Nat) (Option.none : Option Jvm.ClassFile.FieldType)).before args0 about1 = true := code_word (m := ⟨7, 11⟩) (meth := k7m11) (c := k7c11) (by decide +kernel) rfl rfl rfl (by decide +kernel)
set_option maxRecDepth 65536 in
theorem w_c28 : (Jvm.Cond.code ({ cls := "jdk/internal/util/Preconditions", name := "checkIndex", desc := "(IILjava/util/function/BiFunction;)I" } : Jvm.MethodName) jdk_41_method_11_code (3 : Nat) (Option.some Jvm.ClassFile.FieldType.int)).before args0 about1 = true := code_word (m := ⟨11, 1⟩) (meth := k11m1) (c := k11c1) (by decide +kernel) rfl rfl rfl (by decide +kernel)
def codes1 : List Jvm.Cond := [Jvm.Cond.code x code maxLocals ret, Jvm.Cond.code ({ cls := "com/example/bill_of_claims/billofclaims/labels/LabelWordsPrefixPinLaw", name := "ch", desc := "(I)C" } : Jvm.MethodName) method_2_code (1 : Nat) (Option.some Jvm.ClassFile.FieldType.char), Jvm.Cond.code ({ cls := "java/lang/String", name := "<init>", desc := "([C)V" } : Jvm.MethodName) jdk_42_method_3_code (2 : Nat) (Option.none : Option Jvm.ClassFile.FieldType), Jvm.Cond.code ({ cls := "java/lang/String", name := "<init>", desc := "([CIILjava/lang/Void;)V" } : Jvm.MethodName) jdk_42_method_149_code (6 : Nat) (Option.none : Option Jvm.ClassFile.FieldType), Jvm.Cond.code ({ cls := "java/lang/Object", name := "<init>", desc := "()V" } : Jvm.MethodName) object_method_1_code (1 : Nat) (Option.none : Option Jvm.ClassFile.FieldType), Jvm.Cond.code ({ cls := "com/example/bill_of_claims/billofclaims/labels/LabelWords", name := "prefix", desc := "(Ljava/lang/String;)Ljava/lang/String;" } : Jvm.MethodName) prog_41_method_5_code (1 : Nat) (Option.some (Jvm.ClassFile.FieldType.object "java/lang/String")), Jvm.Cond.code ({ cls := "java/lang/String", name := "lastIndexOf", desc := "(I)I" } : Jvm.MethodName) jdk_42_method_82_code (2 : Nat) (Option.some Jvm.ClassFile.FieldType.int), Jvm.Cond.code ({ cls := "java/lang/String", name := "length", desc := "()I" } : Jvm.MethodName) jdk_42_method_54_code (1 : Nat) (Option.some Jvm.ClassFile.FieldType.int), Jvm.Cond.code ({ cls := "java/lang/String", name := "coder", desc := "()B" } : Jvm.MethodName) jdk_42_method_152_code (1 : Nat) (Option.some Jvm.ClassFile.FieldType.byte), Jvm.Cond.code ({ cls := "java/lang/String", name := "lastIndexOf", desc := "(II)I" } : Jvm.MethodName) jdk_42_method_83_code (3 : Nat) (Option.some Jvm.ClassFile.FieldType.int), Jvm.Cond.code ({ cls := "java/lang/String", name := "isLatin1", desc := "()Z" } : Jvm.MethodName) jdk_42_method_154_code (1 : Nat) (Option.some Jvm.ClassFile.FieldType.boolean), Jvm.Cond.code ({ cls := "java/lang/StringLatin1", name := "lastIndexOf", desc := "([BII)I" } : Jvm.MethodName) jdk_43_method_27_code (4 : Nat) (Option.some Jvm.ClassFile.FieldType.int), Jvm.Cond.code ({ cls := "java/lang/StringLatin1", name := "canEncode", desc := "(I)Z" } : Jvm.MethodName) jdk_43_method_4_code (1 : Nat) (Option.some Jvm.ClassFile.FieldType.boolean), Jvm.Cond.code ({ cls := "java/lang/Math", name := "min", desc := "(II)I" } : Jvm.MethodName) jdk_29_method_69_code (2 : Nat) (Option.some Jvm.ClassFile.FieldType.int), Jvm.Cond.code ({ cls := "java/lang/String", name := "substring", desc := "(II)Ljava/lang/String;" } : Jvm.MethodName) jdk_42_method_92_code (5 : Nat) (Option.some (Jvm.ClassFile.FieldType.object "java/lang/String")), Jvm.Cond.code ({ cls := "java/lang/String", name := "checkBoundsBeginEnd", desc := "(III)V" } : Jvm.MethodName) jdk_42_method_158_code (3 : Nat) (Option.none : Option Jvm.ClassFile.FieldType), Jvm.Cond.code ({ cls := "jdk/internal/util/Preconditions", name := "checkFromToIndex", desc := "(IIILjava/util/function/BiFunction;)I" } : Jvm.MethodName) jdk_41_method_12_code (4 : Nat) (Option.some Jvm.ClassFile.FieldType.int), Jvm.Cond.code ({ cls := "java/lang/StringUTF16", name := "compress", desc := "([CII)[B" } : Jvm.MethodName) jdk_52_method_16_code (6 : Nat) (Option.some (Jvm.ClassFile.FieldType.array Jvm.ClassFile.FieldType.byte)), Jvm.Cond.code ({ cls := "java/lang/StringUTF16", name := "compress", desc := "([CI[BII)I" } : Jvm.MethodName) jdk_52_method_21_code (7 : Nat) (Option.some Jvm.ClassFile.FieldType.int), Jvm.Cond.code ({ cls := "java/lang/StringUTF16", name := "coderFromArrayLen", desc := "([BI)B" } : Jvm.MethodName) jdk_52_method_15_code (2 : Nat) (Option.some Jvm.ClassFile.FieldType.byte), Jvm.Cond.code ({ cls := "java/lang/StringLatin1", name := "newString", desc := "([BII)Ljava/lang/String;" } : Jvm.MethodName) jdk_43_method_47_code (3 : Nat) (Option.some (Jvm.ClassFile.FieldType.object "java/lang/String")), Jvm.Cond.code ({ cls := "java/util/Arrays", name := "copyOfRange", desc := "([BII)[B" } : Jvm.MethodName) jdk_65_method_132_code (3 : Nat) (Option.some (Jvm.ClassFile.FieldType.array Jvm.ClassFile.FieldType.byte)), Jvm.Cond.code ({ cls := "java/util/Arrays", name := "copyOfRangeByte", desc := "([BII)[B" } : Jvm.MethodName) jdk_65_method_133_code (5 : Nat) (Option.some (Jvm.ClassFile.FieldType.array Jvm.ClassFile.FieldType.byte)), Jvm.Cond.code ({ cls := "java/util/Arrays", name := "checkLength", desc := "(II)V" } : Jvm.MethodName) jdk_65_method_131_code (2 : Nat) (Option.none : Option Jvm.ClassFile.FieldType), Jvm.Cond.code ({ cls := "java/lang/String", name := "<init>", desc := "([BB)V" } : Jvm.MethodName) jdk_42_method_151_code (3 : Nat) (Option.none : Option Jvm.ClassFile.FieldType), Jvm.Cond.code ({ cls := "java/lang/String", name := "charAt", desc := "(I)C" } : Jvm.MethodName) jdk_42_method_56_code (2 : Nat) (Option.some Jvm.ClassFile.FieldType.char), Jvm.Cond.code ({ cls := "java/lang/StringLatin1", name := "charAt", desc := "([BI)C" } : Jvm.MethodName) jdk_43_method_2_code (2 : Nat) (Option.some Jvm.ClassFile.FieldType.char), Jvm.Cond.code ({ cls := "java/lang/String", name := "checkIndex", desc := "(II)V" } : Jvm.MethodName) jdk_42_method_155_code (2 : Nat) (Option.none : Option Jvm.ClassFile.FieldType), Jvm.Cond.code ({ cls := "jdk/internal/util/Preconditions", name := "checkIndex", desc := "(IILjava/util/function/BiFunction;)I" } : Jvm.MethodName) jdk_41_method_11_code (3 : Nat) (Option.some Jvm.ClassFile.FieldType.int)]
set_option maxRecDepth 65536 in
theorem codes_eq : words1.filter isCode = codes1 := rfl
theorem w_codes : ∀ c ∈ words1.filter isCode, c.before args0 about1 = true := by
  rw [codes_eq]
  intro c hc
  simp only [codes1, List.mem_cons, List.not_mem_nil, or_false] at hc
  rcases hc with rfl | rfl | rfl | rfl | rfl | rfl | rfl | rfl | rfl | rfl | rfl | rfl | rfl | rfl | rfl | rfl | rfl | rfl | rfl | rfl | rfl | rfl | rfl | rfl | rfl | rfl | rfl | rfl | rfl
  · exact w_c0
  · exact w_c1
  · exact w_c2
  · exact w_c3
  · exact w_c4
  · exact w_c5
  · exact w_c6
  · exact w_c7
  · exact w_c8
  · exact w_c9
  · exact w_c10
  · exact w_c11
  · exact w_c12
  · exact w_c13
  · exact w_c14
  · exact w_c15
  · exact w_c16
  · exact w_c17
  · exact w_c18
  · exact w_c19
  · exact w_c20
  · exact w_c21
  · exact w_c22
  · exact w_c23
  · exact w_c24
  · exact w_c25
  · exact w_c26
  · exact w_c27
  · exact w_c28
set_option maxRecDepth 65536 in
theorem w_t1 : (words1.take 24).all (fun c => isCode c || c.before args0 about1) = true := by decide +kernel
set_option maxRecDepth 65536 in
theorem w_t2 : ((words1.drop 24).take 24).all (fun c => isCode c || c.before args0 about1) = true := by decide +kernel
set_option maxRecDepth 65536 in
theorem w_t3 : (((words1.drop 24).drop 24).take 24).all (fun c => isCode c || c.before args0 about1) = true := by decide +kernel
set_option maxRecDepth 65536 in
theorem w_t4 : ((((words1.drop 24).drop 24).drop 24).take 24).all (fun c => isCode c || c.before args0 about1) = true := by decide +kernel
set_option maxRecDepth 65536 in
theorem w_t5 : (((((words1.drop 24).drop 24).drop 24).drop 24).take 24).all (fun c => isCode c || c.before args0 about1) = true := by decide +kernel
set_option maxRecDepth 65536 in
theorem w_t6 : (((((words1.drop 24).drop 24).drop 24).drop 24).drop 24).all (fun c => isCode c || c.before args0 about1) = true := by decide +kernel
theorem w_tables : (allAtoms (Jvm.Cond.code x code maxLocals ret :: tables_1)).before args0 about1 = true := by
  rw [allAtoms_all]
  show words1.all (fun c => c.before args0 about1) = true
  refine all_split ?_ w_codes
  rw [← List.take_append_drop 24 words1, List.all_append, w_t1, ← List.take_append_drop 24 (words1.drop 24), List.all_append, w_t2, ← List.take_append_drop 24 ((words1.drop 24).drop 24), List.all_append, w_t3, ← List.take_append_drop 24 (((words1.drop 24).drop 24).drop 24), List.all_append, w_t4, ← List.take_append_drop 24 ((((words1.drop 24).drop 24).drop 24).drop 24), List.all_append, w_t5, w_t6]
  rfl
set_option maxRecDepth 65536 in
theorem w_rest : rest_1_c.before args0 about1 = true := by decide +kernel
set_option maxRecDepth 65536 in
theorem w_case : (Jvm.Cond.and given_1 narrow_1).before args0 about1 = true := by decide +kernel
set_option maxRecDepth 65536 in
theorem w_consts : constsHeld consts_1 about1 := Jvm.Lit.constsHeldB_iff.mp (by decide +kernel)
theorem w_applies : (headSpec (Jvm.Cond.code x code maxLocals ret :: tables_1) room_1).applies x e0.platform about1 = true :=
  (Spec.applies_iff w_frames).mpr ⟨w_running, w_runnable, w_alone, w_named, w_hears, w_ripe, w_room, w_tables⟩
theorem atStart : AtStart classFile x code maxLocals ret World_1 tables_1 room_1 Calls_1 rest_1 Pre_1 launch0 p0 e0 about1 theMethod args0 below0 :=
  ⟨lists_1, trivial, launch0.admits_env _ _ _, launch0.least_env, fairChoices_fair.cas, fairChoices_fair.clock, w_frames, w_args, w_heap, w_applies, ⟨w_consts, trivial⟩, w_rest, w_case⟩
end start1
theorem witness_1 : WitnessClaimed_1 := ⟨start1.p0, start1.e0, start1.about1, start1.theMethod, start1.args0, start1.below0, start1.atStart⟩
end Jvm.Pilot.@@N@@
