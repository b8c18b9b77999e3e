import JvmDerived
import JvmDerived.Pilot.@@N@@Statement
import JvmDerived.Pilot.@@N@@Code
set_option linter.unusedVariables false
set_option linter.unusedSimpArgs false
namespace Jvm.RoadKit
open Sem ClassFile Op Lib Jvm.Stand Jvm.Free Jvm.LawKit
section New
variable {p : Program} {l : Launch} {e : Env} {R : Room} {s : State} {m : MethodId} {args : Array Value} {below : List Frame} {meth : Method} {c : Code} {T : State} {locs : List Loc} {cells slots : Nat}
theorem retI (X : Stand p l e R s m args below meth c T locs cells slots) (hx : p.tables.exec = Jvm.exec) {pc : Nat} {Ls : Array Slot} {z : Int32} {rest : List Value} (hret : meth.sig.returnType = some .int) (hd : decode c.code pc = .ok (.ireturn, 1)) {fs : List Frame}
    (hl : ∀ (f : JFrame) (acts : List Action), f.method = m → f.locked = none → f.entered = [] → (doReturn e (T.setTop f) acts (some (.int z))).1 = T.setFrames fs) : Steps p.tables e below (T.setTop (mkF m pc Ls (.int z :: rest))) (T.setFrames fs) := by
  have hm' : T.vm.method? m = some meth := X.method'
  have hn : narrow .int (.int z) = .int z := rfl
  show Steps p.tables e below (T.setTop { method := m, pc := pc, locals := Ls, stack := _ :: rest, locked := none }) _
  jvm_step X.here [X.here.top, hx, hd, hm', hret, hn]
  first | (intro acts; rw [hl _ acts rfl rfl rfl]) | rw [hl _ _ rfl rfl rfl]
  exact Steps.refl _
end New
end Jvm.RoadKit
/- laws to paste: Road.backV (cut by pick.py; bodies as the Statement names them) -/
namespace Jvm.Pilot.@@N@@
namespace StrChars
open Jvm Sem ClassFile Op Lib Jvm.Stand Jvm.Free.XT Jvm.Free.ALB Jvm.Free.JM Jvm.Free
open Jvm.Lib.Cold (StaticIs)
/-- a char array whose places are chars -/
def Ch (a : Addr) (A : Cell) (U : State) : Prop := Arr .char a A U ∧ Typed .char A
theorem Ch.mv {a : Addr} {A : Cell} {U U' : State} (h : Ch a A U) (hal : U.vm.Alike U'.vm) (hh : U'.heap = U.heap) : Ch a A U' := ⟨h.1.mv hal hh, h.2⟩
theorem Ch.keep {a : Addr} {A : Cell} {U U' : State} (h : Ch a A U) (hal : U.vm.Alike U'.vm) (hk : U'.heap[a]? = some A) : Ch a A U' := ⟨h.1.keep hal hk, h.2⟩
/-- what place i of a char[]'s cell holds -/
def cv (A : Cell) (i : Nat) : Int32 := match A.slots[i]? with | some (.int x) => x | _ => 0
theorem Ch.get {a : Addr} {A : Cell} {U : State} (h : Ch a A U) {i : Nat} (hi : i < A.slots.size) : A.slots[i]? = some (.int (cv A i)) := by
  have e := Array.getElem?_eq_getElem hi
  have f := h.2 i _ e
  unfold cv; rw [e]
  generalize A.slots[i] = v at f
  cases v <;> simp [fits] at f ⊢
/-- the byte that i2b leaves of a char -/
def lo8 (x : Int32) : Int32 := x.toInt8.toInt32
theorem fits_lo8 (y : Int32) : fits .byte (.int (lo8 y)) = true := by
  have h1 := y.toInt8.le_toInt
  have h2 := y.toInt8.toInt_lt
  simp only [lo8, fits, Bool.and_eq_true, decide_eq_true_eq, Int32.le_iff_toInt_le, Int8.toInt_toInt32, show (-128 : Int32).toInt = -128 from by decide, show (127 : Int32).toInt = 127 from by decide]
  omega
/-- A' is A but that each place j of lo .. hi - 1 holds f j -/
def Laid (A A' : Cell) (lo hi : Nat) (f : Nat → Value) : Prop := A'.cls = A.cls ∧ A'.vm = A.vm ∧ A'.slots.size = A.slots.size ∧ ∀ i, A'.slots[i]? = if lo ≤ i ∧ i < hi then some (f i) else A.slots[i]?
theorem Laid.zero (A : Cell) (lo : Nat) (f : Nat → Value) : Laid A A lo (lo + 0) f := ⟨rfl, rfl, rfl, fun i => by rw [if_neg (by omega)]⟩
theorem Laid.step {A Ak : Cell} {lo k : Nat} {f : Nat → Value} {v : Value} (h : Laid A Ak lo k f) (hlo : lo ≤ k) (hk : k < Ak.slots.size) (hv : v = f k) : Laid A (Ak.setSlot k v) lo (k + 1) f := by
  refine ⟨h.1, h.2.1, by simpa [Cell.setSlot] using h.2.2.1, fun i => ?_⟩
  by_cases e : k = i
  · subst e; rw [Cell.slots_setSlot_self v hk, if_pos (by omega), hv]
  · rw [Cell.slots_setSlot_ne v e, h.2.2.2 i]
    by_cases q : lo ≤ i ∧ i < k
    · rw [if_pos q, if_pos (by omega)]
    · rw [if_neg q, if_neg (by omega)]
def U16 : String := "java/lang/StringUTF16"
namespace Cmp5
def yN : MethodName := ⟨"java/lang/StringUTF16", "compress", "([CI[BII)I"⟩
abbrev yB : ByteArray := jdk_52_method_21_code
theorem d0 : decode yB 0 = .ok (.iconst 0, 1) := by decide +kernel
theorem d1 : decode yB 1 = .ok (.istore 5, 2) := by decide +kernel
theorem d3 : decode yB 3 = .ok (.iload 5, 2) := by decide +kernel
theorem d5 : decode yB 5 = .ok (.iload 4, 2) := by decide +kernel
theorem d7 : decode yB 7 = .ok (.if_icmp (.ge) 37, 3) := by decide +kernel
theorem d10 : decode yB 10 = .ok (.aload_n 0, 1) := by decide +kernel
theorem d11 : decode yB 11 = .ok (.iload_n 1, 1) := by decide +kernel
theorem d12 : decode yB 12 = .ok (.caload, 1) := by decide +kernel
theorem d13 : decode yB 13 = .ok (.istore 6, 2) := by decide +kernel
theorem d15 : decode yB 15 = .ok (.iload 6, 2) := by decide +kernel
theorem d17 : decode yB 17 = .ok (.sipush 255, 3) := by decide +kernel
theorem d20 : decode yB 20 = .ok (.if_icmp (.le) 6, 3) := by decide +kernel
theorem d26 : decode yB 26 = .ok (.aload_n 2, 1) := by decide +kernel
theorem d27 : decode yB 27 = .ok (.iload_n 3, 1) := by decide +kernel
theorem d28 : decode yB 28 = .ok (.iload 6, 2) := by decide +kernel
theorem d30 : decode yB 30 = .ok (.i2b, 1) := by decide +kernel
theorem d31 : decode yB 31 = .ok (.bastore, 1) := by decide +kernel
theorem d32 : decode yB 32 = .ok (.iinc 1 1, 3) := by decide +kernel
theorem d35 : decode yB 35 = .ok (.iinc 3 1, 3) := by decide +kernel
theorem d38 : decode yB 38 = .ok (.iinc 5 1, 3) := by decide +kernel
theorem d41 : decode yB 41 = .ok (.goto (-38), 3) := by decide +kernel
theorem d44 : decode yB 44 = .ok (.iload 4, 2) := by decide +kernel
theorem d46 : decode yB 46 = .ok (.ireturn, 1) := by decide +kernel
def site : List Cond := []
def tab : Cond := tabOf yN yB 7 (some .int) site
def P (b : Addr) (A : Cell) (d : Addr) (B : Cell) (o q len : Nat) (args : Array Value) (s : State) : Prop := args = #[.ref b, .int (Int32.ofNat o), .ref d, .int (Int32.ofNat q), .int (Int32.ofNat len)] ∧ Ch b A s ∧ Arr .byte d B s ∧ b ≠ d ∧ o + len ≤ A.slots.size ∧ q + len ≤ B.slots.size ∧ ∀ i, i < len → ¬ 255 < cv A (o + i)
def E (b : Addr) (A : Cell) (d : Addr) (B : Cell) (o q len : Nat) (r : Option Value) (s u : State) : Prop := r = some (.int (Int32.ofNat len)) ∧ ∃ B', Put d B' s u ∧ Laid B B' q (q + len) (fun j => Value.int (lo8 (cv A (o + (j - q)))))
/-- no char of the range above 255: len; the places written hold each char's low byte -/
theorem law (l : Launch) (b : Addr) (A : Cell) (d : Addr) (B : Cell) (o q len : Nat) : Law l yN 5 5 0 0 yB 7 (some .int) site (P b A d B o q len) (E b A d B o q len) (copyLocs d q len) 0 0 := by
  refine Law.of_walk (plainFor_of_name (by decide +kernel)) (by decide +kernel) (by decide +kernel) (by decide) (fun _ _ h => by rw [h.1]; rfl) (fun _ U U' hal hh h => ⟨h.1, h.2.1.mv hal hh, h.2.2.1.mv hal hh, h.2.2.2⟩) (fun r U U' V V' h1 hal h2 h => ⟨h.1, h.2.elim fun B' q => ⟨B', q.1.mv h1 h2, q.2⟩⟩) ?_
  intro p e s m args below meth c s₁ X0 hexec hbytes hml hret hlk hnm hown hh0 W hP
  obtain ⟨rfl, hA, hB, hne, l1, l2, hp⟩ := hP
  have c1 : Steps p.tables e below (s₁.setTop (entryFrame m #[.ref b, .int (Int32.ofNat o), .ref d, .int (Int32.ofNat q), .int (Int32.ofNat len)] 7)) (s₁.setTop (mkF m 0 #[.val (.ref b), .val (.int (Int32.ofNat o)), .val (.ref d), .val (.int (Int32.ofNat q)), .val (.int (Int32.ofNat len)), .unset, .unset] [])) := entry rfl
  have hA0 := hA.1.mv X0.warmed.alike hh0
  have hB0 := hB.mv X0.warmed.alike hh0
  have a31 := hA.1.2.2.2
  have c2 : Steps p.tables e below (s₁.setTop (entryFrame m #[.ref b, .int (Int32.ofNat o), .ref d, .int (Int32.ofNat q), .int (Int32.ofNat len)] 7)) (s₁.setTop (mkF m 3 #[.val (.ref b), .val (.int (Int32.ofNat o)), .val (.ref d), .val (.int (Int32.ofNat q)), .val (.int (Int32.ofNat len)), .val (.int 0), .unset] [])) := c1.trans (by
    refine iconstV X0.here hexec rfl 0 (hb hbytes d0) (by decide) ?_
    refine XS.istore X0.here hexec rfl (hb hbytes d1) rfl rfl ?_
    exact Steps.refl _)
  have loop : ∀ (r i : Nat), i + r = len → ∀ (z : Slot), (z = .unset ∨ ∃ w, z = .val w ∧ w.category = 1) → ∀ (Tl : State) (Bk : Cell), Stand p l e { frames := 0, locals := 0, cells := 0, slots := 0 } s m #[.ref b, .int (Int32.ofNat o), .ref d, .int (Int32.ofNat q), .int (Int32.ofNat len)] below meth c Tl ([] ++ copyLocs d q i) 0 0 → Put d Bk s₁ Tl → Laid B Bk q (q + i) (fun j => Value.int (lo8 (cv A (o + (j - q))))) →
      Steps p.tables e below (s₁.setTop (entryFrame m #[.ref b, .int (Int32.ofNat o), .ref d, .int (Int32.ofNat q), .int (Int32.ofNat len)] 7)) (Tl.setTop (mkF m 3 #[.val (.ref b), .val (.int (Int32.ofNat (o + i))), .val (.ref d), .val (.int (Int32.ofNat (q + i))), .val (.int (Int32.ofNat len)), .val (.int (Int32.ofNat i)), z] [])) → ∃ (T' : State) (B' : Cell) (z' : Slot), Stand p l e { frames := 0, locals := 0, cells := 0, slots := 0 } s m #[.ref b, .int (Int32.ofNat o), .ref d, .int (Int32.ofNat q), .int (Int32.ofNat len)] below meth c T' ([] ++ copyLocs d q len) 0 0 ∧ Put d B' s₁ T' ∧ Laid B B' q (q + len) (fun j => Value.int (lo8 (cv A (o + (j - q))))) ∧
      Steps p.tables e below (s₁.setTop (entryFrame m #[.ref b, .int (Int32.ofNat o), .ref d, .int (Int32.ofNat q), .int (Int32.ofNat len)] 7)) (T'.setTop (mkF m 3 #[.val (.ref b), .val (.int (Int32.ofNat (o + len))), .val (.ref d), .val (.int (Int32.ofNat (q + len))), .val (.int (Int32.ofNat len)), .val (.int (Int32.ofNat len)), z'] [])) := by
    intro r
    induction r with
    | zero =>
      intro i hi z hz Tl Bk Xl pl fl cl
      have hil : i = len := by omega
      rw [hil] at Xl fl cl
      exact ⟨Tl, Bk, z, Xl, pl, fl, cl⟩
    | succ r ih =>
      intro i hi z hz Tl Bk Xl pl fl cl
      have all := X0.warmed.alike.symm.trans Xl.warmed.alike
      have hAl := hA0.keep all (pl.other hne hA0.1)
      have hBk := hB0.like all pl.1 fl.1 fl.2.1 fl.2.2.1
      have hlt : q + i < Bk.slots.size := by rw [fl.2.2.1]; omega
      have c3 : Steps p.tables e below (s₁.setTop (entryFrame m #[.ref b, .int (Int32.ofNat o), .ref d, .int (Int32.ofNat q), .int (Int32.ofNat len)] 7)) (Tl.setTop (mkF m 12 #[.val (.ref b), .val (.int (Int32.ofNat (o + i))), .val (.ref d), .val (.int (Int32.ofNat (q + i))), .val (.int (Int32.ofNat len)), .val (.int (Int32.ofNat i)), z] [.int (Int32.ofNat (o + i)), .ref b])) := cl.trans (by
        refine XS.iload Xl.here hexec rfl (hb hbytes d3) rfl ?_
        refine XS.iload Xl.here hexec rfl (hb hbytes d5) rfl ?_
        refine XS.icmpNo Xl.here hexec rfl (hb hbytes d7) rfl (ii_ge_f (lt32 (by omega) (by omega))) ?_
        refine XS.aloadN Xl.here hexec rfl (hb hbytes d10) rfl rfl ?_
        refine XS.iloadN Xl.here hexec rfl (hb hbytes d11) rfl ?_
        exact Steps.refl _)
      have c4 : Steps p.tables e below (s₁.setTop (entryFrame m #[.ref b, .int (Int32.ofNat o), .ref d, .int (Int32.ofNat q), .int (Int32.ofNat len)] 7)) (Tl.setTop (mkF m 13 #[.val (.ref b), .val (.int (Int32.ofNat (o + i))), .val (.ref d), .val (.int (Int32.ofNat (q + i))), .val (.int (Int32.ofNat len)), .val (.int (Int32.ofNat i)), z] [.int (cv A (o + i))])) := c3.trans (by
        refine Xl.aget hexec hAl rfl (hA.get (i := o + i) (by omega)) rfl rfl (hb hbytes d12) ?_
        exact Steps.refl _)
      have c5 : Steps p.tables e below (s₁.setTop (entryFrame m #[.ref b, .int (Int32.ofNat o), .ref d, .int (Int32.ofNat q), .int (Int32.ofNat len)] 7)) (Tl.setTop (mkF m 15 #[.val (.ref b), .val (.int (Int32.ofNat (o + i))), .val (.ref d), .val (.int (Int32.ofNat (q + i))), .val (.int (Int32.ofNat len)), .val (.int (Int32.ofNat i)), .val (.int (cv A (o + i)))] [])) := c4.trans (by
        refine XS.istoreS Xl.here hexec rfl (hb hbytes d13) rfl rfl hz ?_
        exact Steps.refl _)
      have c6 : Steps p.tables e below (s₁.setTop (entryFrame m #[.ref b, .int (Int32.ofNat o), .ref d, .int (Int32.ofNat q), .int (Int32.ofNat len)] 7)) (Tl.setTop (mkF m 31 #[.val (.ref b), .val (.int (Int32.ofNat (o + i))), .val (.ref d), .val (.int (Int32.ofNat (q + i))), .val (.int (Int32.ofNat len)), .val (.int (Int32.ofNat i)), .val (.int (cv A (o + i)))] [.int (lo8 (cv A (o + i))), .int (Int32.ofNat (q + i)), .ref d])) := c5.trans (by
        refine XS.iload Xl.here hexec rfl (hb hbytes d15) rfl ?_
        refine sipushV Xl.here hexec rfl 255 (hb hbytes d17) (by decide) ?_
        refine XS.icmpYes Xl.here hexec rfl (pc0 := 20) rfl (hb hbytes d20) rfl (ii_le_t (hp i (by omega))) (by decide) rfl ?_
        refine XS.aloadN Xl.here hexec rfl (hb hbytes d26) rfl rfl ?_
        refine XS.iloadN Xl.here hexec rfl (hb hbytes d27) rfl ?_
        refine XS.iload Xl.here hexec rfl (hb hbytes d28) rfl ?_
        refine i2b Xl.here hexec rfl (hb hbytes d30) rfl ?_
        exact Steps.refl _)
      obtain ⟨T7, X7, p7, st7⟩ := Xl.aput hexec hBk rfl hlt rfl (fits_lo8 (cv A (o + i))) (g := (mkF m 31 #[.val (.ref b), .val (.int (Int32.ofNat (o + i))), .val (.ref d), .val (.int (Int32.ofNat (q + i))), .val (.int (Int32.ofNat len)), .val (.int (Int32.ofNat i)), .val (.int (cv A (o + i)))] [.int (lo8 (cv A (o + i))), .int (Int32.ofNat (q + i)), .ref d])) rfl (rest := []) rfl (hb hbytes d31)
      have c8 : Steps p.tables e below (s₁.setTop (entryFrame m #[.ref b, .int (Int32.ofNat o), .ref d, .int (Int32.ofNat q), .int (Int32.ofNat len)] 7)) (T7.setTop (mkF m 32 #[.val (.ref b), .val (.int (Int32.ofNat (o + i))), .val (.ref d), .val (.int (Int32.ofNat (q + i))), .val (.int (Int32.ofNat len)), .val (.int (Int32.ofNat i)), .val (.int (cv A (o + i)))] [])) := c6.trans (st7 _ (Steps.refl _))
      have c9 : Steps p.tables e below (s₁.setTop (entryFrame m #[.ref b, .int (Int32.ofNat o), .ref d, .int (Int32.ofNat q), .int (Int32.ofNat len)] 7)) (T7.setTop (mkF m 3 #[.val (.ref b), .val (.int (Int32.ofNat (o + i) + 1)), .val (.ref d), .val (.int (Int32.ofNat (q + i) + 1)), .val (.int (Int32.ofNat len)), .val (.int (Int32.ofNat i + 1)), .val (.int (cv A (o + i)))] [])) := c8.trans (by
        refine iincV X7.here hexec rfl 1 (hb hbytes d32) (by decide) rfl rfl ?_
        refine iincV X7.here hexec rfl 1 (hb hbytes d35) (by decide) rfl rfl ?_
        refine iincV X7.here hexec rfl 1 (hb hbytes d38) (by decide) rfl rfl ?_
        refine XS.goto X7.here hexec rfl (pc0 := 41) rfl (hb hbytes d41) (by decide) rfl ?_
        exact Steps.refl _)
      have c10 : Steps p.tables e below (s₁.setTop (entryFrame m #[.ref b, .int (Int32.ofNat o), .ref d, .int (Int32.ofNat q), .int (Int32.ofNat len)] 7)) (T7.setTop (mkF m 3 #[.val (.ref b), .val (.int (Int32.ofNat (o + (i + 1)))), .val (.ref d), .val (.int (Int32.ofNat (q + (i + 1)))), .val (.int (Int32.ofNat len)), .val (.int (Int32.ofNat (i + 1))), .val (.int (cv A (o + i)))] [])) := by
        have := c9
        rw [succ32, succ32, succ32] at this
        exact this
      exact ih (i + 1) (by omega) _ (Or.inr ⟨_, rfl, rfl⟩) T7 _ (by rw [copyLocs_step, ← List.append_assoc]; exact X7) (pl.trans p7) (fl.step (by omega) hlt (by simp)) c10
  obtain ⟨T9, B9, z9, X9, p9, f9, g9⟩ := loop len 0 (by omega) .unset (Or.inl rfl) s₁ B (by simpa [copyLocs] using X0) ⟨hB0.1, fun _ _ => rfl, rfl⟩ (Laid.zero _ _ _) c2
  have c11 : Steps p.tables e below (s₁.setTop (entryFrame m #[.ref b, .int (Int32.ofNat o), .ref d, .int (Int32.ofNat q), .int (Int32.ofNat len)] 7)) (T9.setTop (mkF m 46 #[.val (.ref b), .val (.int (Int32.ofNat (o + len))), .val (.ref d), .val (.int (Int32.ofNat (q + len))), .val (.int (Int32.ofNat len)), .val (.int (Int32.ofNat len)), z9] [.int (Int32.ofNat len)])) := g9.trans (by
    refine XS.iload X9.here hexec rfl (hb hbytes d3) rfl ?_
    refine XS.iload X9.here hexec rfl (hb hbytes d5) rfl ?_
    refine XS.icmpYes X9.here hexec rfl (pc0 := 7) rfl (hb hbytes d7) rfl (ii_ge_t (nlt32 (by omega) (Nat.le_refl _))) (by decide) rfl ?_
    refine XS.iload X9.here hexec rfl (hb hbytes d44) rfl ?_
    exact Steps.refl _)
  exact ⟨T9, some (.int (Int32.ofNat len)), _, _, _, X9, by simp, rfl, rfl, (fun h => by cases h), ⟨rfl, B9, p9.from hh0, f9⟩, fun fs hl => c11.trans (X9.ireturnOut hexec hret rfl (Or.inl rfl) (hb hbytes d46) hl)⟩
end Cmp5
namespace Cmp3
def yN : MethodName := ⟨"java/lang/StringUTF16", "compress", "([CII)[B"⟩
abbrev yB : ByteArray := jdk_52_method_16_code
theorem d0 : decode yB 0 = .ok (.iload_n 2, 1) := by decide +kernel
theorem d1 : decode yB 1 = .ok (.newarray .byte, 2) := by decide +kernel
theorem d3 : decode yB 3 = .ok (.astore_n 3, 1) := by decide +kernel
theorem d4 : decode yB 4 = .ok (.aload_n 0, 1) := by decide +kernel
theorem d5 : decode yB 5 = .ok (.iload_n 1, 1) := by decide +kernel
theorem d6 : decode yB 6 = .ok (.aload_n 3, 1) := by decide +kernel
theorem d7 : decode yB 7 = .ok (.iconst 0, 1) := by decide +kernel
theorem d8 : decode yB 8 = .ok (.iload_n 2, 1) := by decide +kernel
theorem d9 : decode yB 9 = .ok (.invokestatic 115, 3) := by decide +kernel
theorem d12 : decode yB 12 = .ok (.istore 4, 2) := by decide +kernel
theorem d14 : decode yB 14 = .ok (.iload 4, 2) := by decide +kernel
theorem d16 : decode yB 16 = .ok (.iload_n 2, 1) := by decide +kernel
theorem d17 : decode yB 17 = .ok (.if_icmp (.eq) 40, 3) := by decide +kernel
theorem d57 : decode yB 57 = .ok (.aload_n 3, 1) := by decide +kernel
theorem d58 : decode yB 58 = .ok (.areturn, 1) := by decide +kernel
def site : List Cond := [.arrayClass .byte, Cmp5.tab] ++ staticW U16 115 Cmp5.yN
def tab : Cond := tabOf yN yB 6 (some (.array .byte)) site
def P (b : Addr) (A : Cell) (o len : Nat) (args : Array Value) (s : State) : Prop := args = #[.ref b, .int (Int32.ofNat o), .int (Int32.ofNat len)] ∧ Ch b A s ∧ o + len ≤ A.slots.size ∧ len ≤ 536870912 ∧ ∀ i, i < len → ¬ 255 < cv A (o + i)
def E (b : Addr) (A : Cell) (o len : Nat) (r : Option Value) (s u : State) : Prop := NewArr .byte "[B" len (fun j => .int (lo8 (cv A (o + j)))) r s u ∧ u.heap.size = s.heap.size + 1
/-- no char of the range above 255: a new byte[] of their low bytes -/
theorem law (l : Launch) (b : Addr) (A : Cell) (o len : Nat) : Law l yN 3 3 1 18 yB 6 (some (.array .byte)) site (P b A o len) (E b A o len) [] 1 len := by
  refine Law.of_walk (plainFor_of_name (by decide +kernel)) (by decide +kernel) (by decide +kernel) (by decide) (fun _ _ h => by rw [h.1]; rfl) (fun _ U U' hal hh h => ⟨h.1, h.2.1.mv hal hh, h.2.2⟩) (fun r U U' V V' h1 hal h2 h => ⟨NewArr.mv r U U' V V' h1 hal h2 h.1, by rw [h1, h2]; exact h.2⟩) ?_
  intro p e s m args below meth c s₁ X0 hexec hbytes hml hret hlk hnm hown hh0 W hP
  obtain ⟨rfl, hA, l1, l2, hp⟩ := hP
  have a31 := hA.1.2.2.2
  have c1 : Steps p.tables e below (s₁.setTop (entryFrame m #[.ref b, .int (Int32.ofNat o), .int (Int32.ofNat len)] 6)) (s₁.setTop (mkF m 0 #[.val (.ref b), .val (.int (Int32.ofNat o)), .val (.int (Int32.ofNat len)), .unset, .unset, .unset] [])) := entry rfl
  have c2 : Steps p.tables e below (s₁.setTop (entryFrame m #[.ref b, .int (Int32.ofNat o), .int (Int32.ofNat len)] 6)) (s₁.setTop (mkF m 1 #[.val (.ref b), .val (.int (Int32.ofNat o)), .val (.int (Int32.ofNat len)), .unset, .unset, .unset] [.int (Int32.ofNat len)])) := c1.trans (by
    refine XS.iloadN X0.here hexec rfl (hb hbytes d0) rfl ?_
    exact Steps.refl _)
  obtain ⟨T3, B3, X3, ba3, bs3, bv3, bh3, bf3, st3⟩ := X0.anew hexec (atype := .byte) (wk W (.arrayClass .byte)) rfl (by show len * 1 ≤ _; omega) (by omega) (g := (mkF m 1 #[.val (.ref b), .val (.int (Int32.ofNat o)), .val (.int (Int32.ofNat len)), .unset, .unset, .unset] [.int (Int32.ofNat len)])) rfl (hb hbytes d1) (rest := []) rfl (Nat.le_refl _) (by show 0 + len ≤ len; omega)
  rw [hh0] at ba3 st3
  have kp3 : XT.Kept s T3 := (XT.Kept.of_eq hh0).push bh3
  have hA3 := hA.keep X3.warmed.alike (kp3 _ _ hA.1.1)
  have hne : b ≠ s.heap.size := hA.1.ne
  have c4 : Steps p.tables e below (s₁.setTop (entryFrame m #[.ref b, .int (Int32.ofNat o), .int (Int32.ofNat len)] 6)) (T3.setTop (mkF m 3 #[.val (.ref b), .val (.int (Int32.ofNat o)), .val (.int (Int32.ofNat len)), .unset, .unset, .unset] [.ref s.heap.size])) := c2.trans (st3 _ (Steps.refl _))
  have c5 : Steps p.tables e below (s₁.setTop (entryFrame m #[.ref b, .int (Int32.ofNat o), .int (Int32.ofNat len)] 6)) (T3.setTop (mkF m 9 #[.val (.ref b), .val (.int (Int32.ofNat o)), .val (.int (Int32.ofNat len)), .val (.ref s.heap.size), .unset, .unset] [.int (Int32.ofNat len), .int 0, .ref s.heap.size, .int (Int32.ofNat o), .ref b])) := c4.trans (by
    refine XS.astoreN X3.here hexec rfl (hb hbytes d3) rfl rfl rfl ?_
    refine XS.aloadN X3.here hexec rfl (hb hbytes d4) rfl rfl ?_
    refine XS.iloadN X3.here hexec rfl (hb hbytes d5) rfl ?_
    refine XS.aloadN X3.here hexec rfl (hb hbytes d6) rfl rfl ?_
    refine iconstV X3.here hexec rfl 0 (hb hbytes d7) (by decide) ?_
    refine XS.iloadN X3.here hexec rfl (hb hbytes d8) rfl ?_
    exact Steps.refl _)
  obtain ⟨v6, T6, X6, E6, g6⟩ := X3.callS hexec (Cmp5.law l b A s.heap.size B3 o 0 len) hown (wks W (staticW U16 115 Cmp5.yN)) (wk W Cmp5.tab) (W := 0) (Nat.le_of_ble_eq_true rfl) (Nat.le_of_ble_eq_true rfl) (Nat.le_refl _) (by show 0 + len + 0 ≤ len; omega) (g := (mkF m 9 #[.val (.ref b), .val (.int (Int32.ofNat o)), .val (.int (Int32.ofNat len)), .val (.ref s.heap.size), .unset, .unset] [.int (Int32.ofNat len), .int (Int32.ofNat 0), .ref s.heap.size, .int (Int32.ofNat o), .ref b])) rfl (by rw [hml]; rfl) c5 (argsL := [.ref b, .int (Int32.ofNat o), .ref s.heap.size, .int (Int32.ofNat 0), .int (Int32.ofNat len)]) (rest := []) rfl rfl (by show 2 * 0 + 0 ≤ _; decide) (hb hbytes d9) (⟨rfl, hA3, ba3, hne, l1, by rw [bs3]; simp, hp⟩)
  obtain ⟨rfl, B6, p6, f6⟩ := E6
  have c7 : Steps p.tables e below (s₁.setTop (entryFrame m #[.ref b, .int (Int32.ofNat o), .int (Int32.ofNat len)] 6)) (T6.setTop (mkF m 12 #[.val (.ref b), .val (.int (Int32.ofNat o)), .val (.int (Int32.ofNat len)), .val (.ref s.heap.size), .unset, .unset] [.int (Int32.ofNat len)])) := g6
  have c8 : Steps p.tables e below (s₁.setTop (entryFrame m #[.ref b, .int (Int32.ofNat o), .int (Int32.ofNat len)] 6)) (T6.setTop (mkF m 58 #[.val (.ref b), .val (.int (Int32.ofNat o)), .val (.int (Int32.ofNat len)), .val (.ref s.heap.size), .val (.int (Int32.ofNat len)), .unset] [.ref s.heap.size])) := c7.trans (by
    refine XS.istore X6.here hexec rfl (hb hbytes d12) rfl rfl ?_
    refine XS.iload X6.here hexec rfl (hb hbytes d14) rfl ?_
    refine XS.iloadN X6.here hexec rfl (hb hbytes d16) rfl ?_
    refine XS.icmpYes X6.here hexec rfl (pc0 := 17) rfl (hb hbytes d17) rfl (ii_eq_t rfl) (by decide) rfl ?_
    refine XS.aloadN X6.here hexec rfl (hb hbytes d57) rfl rfl ?_
    exact Steps.refl _)
  have X8 := X6.wide (L' := []) (cells' := 1) (slots' := len) (fun x hx hlt => by
    simp only [List.nil_append, copyLocs, List.mem_map, List.mem_range] at hx
    obtain ⟨i, -, rfl⟩ := hx
    exact absurd hlt (Nat.lt_irrefl _)) (Nat.le_refl _) (by omega)
  exact ⟨T6, some (.ref s.heap.size), _, _, _, X8, rfl, rfl, rfl, (fun h => by cases h), ⟨⟨rfl, B6, ba3.like (X3.warmed.alike.symm.trans X6.warmed.alike) p6.1 f6.1 f6.2.1 f6.2.2.1, f6.2.1.trans bv3, by rw [X6.warmed.alike.findClass, f6.1]; exact bf3, by rw [f6.2.2.1, bs3]; simp, fun j hj => by rw [f6.2.2.2 j, if_pos (by omega)]; rfl, kp3.put p6 (Nat.le_refl _)⟩, by rw [p6.2.2, bh3, hh0]; simp⟩, fun fs hl => c8.trans (X8.areturnOut hexec rfl hret rfl (hb hbytes d58) hl)⟩
end Cmp3
namespace CodL
def yN : MethodName := ⟨"java/lang/StringUTF16", "coderFromArrayLen", "([BI)B"⟩
abbrev yB : ByteArray := jdk_52_method_15_code
theorem d0 : decode yB 0 = .ok (.iload_n 1, 1) := by decide +kernel
theorem d1 : decode yB 1 = .ok (.aload_n 0, 1) := by decide +kernel
theorem d2 : decode yB 2 = .ok (.arraylength, 1) := by decide +kernel
theorem d3 : decode yB 3 = .ok (.isub, 1) := by decide +kernel
theorem d4 : decode yB 4 = .ok (.bipush 31, 2) := by decide +kernel
theorem d6 : decode yB 6 = .ok (.iushr, 1) := by decide +kernel
theorem d7 : decode yB 7 = .ok (.i2b, 1) := by decide +kernel
theorem d8 : decode yB 8 = .ok (.ireturn, 1) := by decide +kernel
def site : List Cond := []
def tab : Cond := tabOf yN yB 2 (some .byte) site
def P (d : Addr) (B : Cell) (args : Array Value) (s : State) : Prop := args = #[.ref d, .int (Int32.ofNat B.slots.size)] ∧ Arr .byte d B s
def E (r : Option Value) (s u : State) : Prop := XT.PureE (some (.int 0)) r s u
/-- an array as long as the number of chars: LATIN1 -/
theorem law (l : Launch) (d : Addr) (B : Cell) : Law l yN 2 2 0 0 yB 2 (some .byte) site (P d B) E [] 0 0 := by
  refine Law.of_walk (plainFor_of_name (by decide +kernel)) (by decide +kernel) (by decide +kernel) (by decide) (fun _ _ h => by rw [h.1]; rfl) (fun _ U U' hal hh h => ⟨h.1, h.2.mv hal hh⟩) (fun r U U' V V' h1 hal h2 h => XT.PureE.mv r U U' V V' h1 hal h2 h) ?_
  intro p e s m args below meth c s₁ X0 hexec hbytes hml hret hlk hnm hown hh0 W hP
  obtain ⟨rfl, hB⟩ := hP
  have hB0 := hB.mv X0.warmed.alike hh0
  have c1 : Steps p.tables e below (s₁.setTop (entryFrame m #[.ref d, .int (Int32.ofNat B.slots.size)] 2)) (s₁.setTop (mkF m 0 #[.val (.ref d), .val (.int (Int32.ofNat B.slots.size))] [])) := entry rfl
  have c2 : Steps p.tables e below (s₁.setTop (entryFrame m #[.ref d, .int (Int32.ofNat B.slots.size)] 2)) (s₁.setTop (mkF m 2 #[.val (.ref d), .val (.int (Int32.ofNat B.slots.size))] [.ref d, .int (Int32.ofNat B.slots.size)])) := c1.trans (by
    refine XS.iloadN X0.here hexec rfl (hb hbytes d0) rfl ?_
    refine XS.aloadN X0.here hexec rfl (hb hbytes d1) rfl rfl ?_
    exact Steps.refl _)
  have c3 : Steps p.tables e below (s₁.setTop (entryFrame m #[.ref d, .int (Int32.ofNat B.slots.size)] 2)) (s₁.setTop (mkF m 8 #[.val (.ref d), .val (.int (Int32.ofNat B.slots.size))] [.int (lo8 (ushr (Int32.ofNat B.slots.size - Int32.ofNat B.slots.size) 31))])) := c2.trans (by
    refine X0.alen hexec hB0 rfl rfl (hb hbytes d2) ?_
    refine XS.isub X0.here hexec rfl (hb hbytes d3) rfl ?_
    refine bipushV X0.here hexec rfl 31 (hb hbytes d4) (by decide) ?_
    refine iushr X0.here hexec rfl (hb hbytes d6) rfl ?_
    refine i2b X0.here hexec rfl (hb hbytes d7) rfl ?_
    exact Steps.refl _)
  have e0 : lo8 (ushr (Int32.ofNat B.slots.size - Int32.ofNat B.slots.size) 31) = 0 := by rw [Int32.sub_self]; decide
  rw [e0] at c3
  exact ⟨s₁, some (.int 0), _, _, _, X0, rfl, rfl, rfl, (fun h => by cases h), ⟨rfl, hh0⟩, fun fs hl => c3.trans (X0.ireturnOut hexec hret rfl (Or.inr (Or.inr (Or.inl rfl))) (hb hbytes d8) hl)⟩
end CodL
/-- the String at a is Latin-1 over a new byte[] (the heap's one new cell): the low bytes of the len chars of A from o on; every cell but a is kept -/
def Got (a : Addr) (D : Cell) (fV fC : Field) (A : Cell) (o len : Nat) (r : Option Value) (s u : State) : Prop := r = none ∧ ∃ D' V : Cell, Blank "java/lang/String" a D' u ∧ Same D D' [fV.slot, fC.slot] ∧ D'.slots[fV.slot]? = some (.ref s.heap.size) ∧ D'.slots[fC.slot]? = some (.int 0) ∧ Arr .byte s.heap.size V u ∧ V.vm = .none ∧ u.vm.findClass "[B" = some V.cls ∧ V.slots.size = len ∧ (∀ j, j < len → V.slots[j]? = some (.int (lo8 (cv A (o + j))))) ∧ (∀ (y : Addr) (c : Cell), y ≠ a → s.heap[y]? = some c → u.heap[y]? = some c) ∧ u.heap.size = s.heap.size + 1
theorem Got.mv {a : Addr} {D A : Cell} {fV fC : Field} {o len : Nat} : ∀ r (U U' V V' : State), U'.heap = U.heap → V.vm.Alike V'.vm → V'.heap = V.heap → Got a D fV fC A o len r U V → Got a D fV fC A o len r U' V' :=
  fun r U U' V V' h1 hal h2 ⟨e0, D', X, a1, a2, a3, a4, a5, a6, a7, a8, a9, a10, a11⟩ => ⟨e0, D', X, a1.mv hal h2, a2, by rw [h1]; exact a3, a4, by rw [h1]; exact a5.mv hal h2, a6, by rw [hal.findClass]; exact a7, a8, a9, by rw [h1, h2]; exact a10, by rw [h1, h2]; exact a11⟩
namespace New4
def yN : MethodName := ⟨"java/lang/String", "<init>", "([CIILjava/lang/Void;)V"⟩
abbrev yB : ByteArray := jdk_42_method_149_code
theorem d0 : decode yB 0 = .ok (.aload_n 0, 1) := by decide +kernel
theorem d1 : decode yB 1 = .ok (.invokespecial 1, 3) := by decide +kernel
theorem d4 : decode yB 4 = .ok (.iload_n 3, 1) := by decide +kernel
theorem d5 : decode yB 5 = .ok (.ifCond (.ne) 22, 3) := by decide +kernel
theorem d27 : decode yB 27 = .ok (.getstatic 38, 3) := by decide +kernel
theorem d30 : decode yB 30 = .ok (.ifCond (.eq) 28, 3) := by decide +kernel
theorem d33 : decode yB 33 = .ok (.aload_n 1, 1) := by decide +kernel
theorem d34 : decode yB 34 = .ok (.iload_n 2, 1) := by decide +kernel
theorem d35 : decode yB 35 = .ok (.iload_n 3, 1) := by decide +kernel
theorem d36 : decode yB 36 = .ok (.invokestatic 177, 3) := by decide +kernel
theorem d39 : decode yB 39 = .ok (.astore 5, 2) := by decide +kernel
theorem d41 : decode yB 41 = .ok (.aload_n 0, 1) := by decide +kernel
theorem d42 : decode yB 42 = .ok (.aload 5, 2) := by decide +kernel
theorem d44 : decode yB 44 = .ok (.iload_n 3, 1) := by decide +kernel
theorem d45 : decode yB 45 = .ok (.invokestatic 47, 3) := by decide +kernel
theorem d48 : decode yB 48 = .ok (.putfield 15, 3) := by decide +kernel
theorem d51 : decode yB 51 = .ok (.aload_n 0, 1) := by decide +kernel
theorem d52 : decode yB 52 = .ok (.aload 5, 2) := by decide +kernel
theorem d54 : decode yB 54 = .ok (.putfield 9, 3) := by decide +kernel
theorem d57 : decode yB 57 = .ok (.return_, 1) := by decide +kernel
def site : List Cond := [.fieldLink "java/lang/String" 38 "java/lang/String" "COMPACT_STRINGS" "Z", Cmp3.tab, CodL.tab, .laysFinal "java/lang/String" "java/lang/String" "value" "[B", .fieldLink "java/lang/String" 9 "java/lang/String" "value" "[B", .laysFinal "java/lang/String" "java/lang/String" "coder" "B", .fieldLink "java/lang/String" 15 "java/lang/String" "coder" "B"] ++ objW "java/lang/String" 1 ++ staticW "java/lang/String" 177 Cmp3.yN ++ staticW "java/lang/String" 47 CodL.yN
def tab : Cond := tabOf yN yB 6 none site
def P (a : Addr) (D : Cell) (fV fC : Field) (b : Addr) (A : Cell) (z : Int32) (o len : Nat) (args : Array Value) (s : State) : Prop := args = #[.ref a, .ref b, .int (Int32.ofNat o), .int (Int32.ofNat len), .null] ∧ Blank "java/lang/String" a D s ∧ Found "java/lang/String" "value" "[B" fV s ∧ Found "java/lang/String" "coder" "B" fC s ∧ Ch b A s ∧ StaticIs s "java/lang/String" "COMPACT_STRINGS" "Z" (.int z) ∧ ¬ z = 0 ∧ 0 < len ∧ o + len ≤ A.slots.size ∧ len ≤ 536870912 ∧ ∀ i, i < len → ¬ 255 < cv A (o + i)
def E (a : Addr) (D : Cell) (fV fC : Field) (A : Cell) (o len : Nat) (r : Option Value) (s u : State) : Prop := Got a D fV fC A o len r s u
/-- len > 0, no char of the range above 255: a Latin-1 String of their low bytes -/
theorem law (l : Launch) (a : Addr) (D : Cell) (fV fC : Field) (b : Addr) (A : Cell) (z : Int32) (o len : Nat) : Law l yN 5 4 2 35 yB 6 none site (P a D fV fC b A z o len) (E a D fV fC A o len) [⟨a, fC.slot⟩, ⟨a, fV.slot⟩] 1 len := by
  refine Law.of_walk (plainFor_of_name (by decide +kernel)) (by decide +kernel) (by decide +kernel) (by decide) (fun _ _ h => by rw [h.1]; rfl) (fun _ U U' hal hh h => ⟨h.1, h.2.1.mv hal hh, h.2.2.1.al hal, h.2.2.2.1.al hal, h.2.2.2.2.1.mv hal hh, h.2.2.2.2.2.1.there hal hh, h.2.2.2.2.2.2⟩) (fun r U U' V V' h1 hal h2 h => Got.mv r U U' V V' h1 hal h2 h) ?_
  intro p e s m args below meth c s₁ X0 hexec hbytes hml hret hlk hnm hown hh0 W hP
  obtain ⟨rfl, hB, f1, f2, hA, s1, hz, l0, l1, l2, hp⟩ := hP
  have a31 := hA.1.2.2.2
  have c1 : Steps p.tables e below (s₁.setTop (entryFrame m #[.ref a, .ref b, .int (Int32.ofNat o), .int (Int32.ofNat len), .null] 6)) (s₁.setTop (mkF m 0 #[.val (.ref a), .val (.ref b), .val (.int (Int32.ofNat o)), .val (.int (Int32.ofNat len)), .val .null, .unset] [])) := entry rfl
  have c2 : Steps p.tables e below (s₁.setTop (entryFrame m #[.ref a, .ref b, .int (Int32.ofNat o), .int (Int32.ofNat len), .null] 6)) (s₁.setTop (mkF m 1 #[.val (.ref a), .val (.ref b), .val (.int (Int32.ofNat o)), .val (.int (Int32.ofNat len)), .val .null, .unset] [.ref a])) := c1.trans (by
    refine XS.aloadN X0.here hexec rfl (hb hbytes d0) rfl rfl ?_
    exact Steps.refl _)
  obtain ⟨T3, X3, q3, st3⟩ := X0.oinit hexec hown (wks W (objW "java/lang/String" 1)) (g := (mkF m 1 #[.val (.ref a), .val (.ref b), .val (.int (Int32.ofNat o)), .val (.int (Int32.ofNat len)), .val .null, .unset] [.ref a])) rfl (by rw [hml]; rfl) (rest := []) rfl (hb hbytes d1) (W := 0) (by show 2 * 0 + 0 ≤ _; decide) (Nat.le_of_ble_eq_true rfl) (Nat.le_of_ble_eq_true rfl)
  have hh3 := q3.trans hh0
  have c4 : Steps p.tables e below (s₁.setTop (entryFrame m #[.ref a, .ref b, .int (Int32.ofNat o), .int (Int32.ofNat len), .null] 6)) (T3.setTop (mkF m 27 #[.val (.ref a), .val (.ref b), .val (.int (Int32.ofNat o)), .val (.int (Int32.ofNat len)), .val .null, .unset] [])) := (c2.trans (st3 _ (Steps.refl _))).trans (by
    refine XS.iloadN X3.here hexec rfl (hb hbytes d4) rfl ?_
    refine XS.ifYes X3.here hexec rfl (pc0 := 5) rfl (hb hbytes d5) rfl (i0_ne_t (nz32 (by omega) l0)) (by decide) rfl ?_
    exact Steps.refl _)
  obtain ⟨T5, X5, q5, st5⟩ := X3.sget hexec hown (wk W (.fieldLink "java/lang/String" 38 "java/lang/String" "COMPACT_STRINGS" "Z")) s1 (fun _ _ h => by rw [hh3]; exact h) (g := (mkF m 27 #[.val (.ref a), .val (.ref b), .val (.int (Int32.ofNat o)), .val (.int (Int32.ofNat len)), .val .null, .unset] [])) rfl (hb hbytes d27)
  have hh5 := q5.trans hh3
  have c6 : Steps p.tables e below (s₁.setTop (entryFrame m #[.ref a, .ref b, .int (Int32.ofNat o), .int (Int32.ofNat len), .null] 6)) (T5.setTop (mkF m 30 #[.val (.ref a), .val (.ref b), .val (.int (Int32.ofNat o)), .val (.int (Int32.ofNat len)), .val .null, .unset] [.int z])) := c4.trans (st5 _ (Steps.refl _))
  have c7 : Steps p.tables e below (s₁.setTop (entryFrame m #[.ref a, .ref b, .int (Int32.ofNat o), .int (Int32.ofNat len), .null] 6)) (T5.setTop (mkF m 36 #[.val (.ref a), .val (.ref b), .val (.int (Int32.ofNat o)), .val (.int (Int32.ofNat len)), .val .null, .unset] [.int (Int32.ofNat len), .int (Int32.ofNat o), .ref b])) := c6.trans (by
    refine XS.ifNo X5.here hexec rfl (hb hbytes d30) rfl (i0_eq_f hz) ?_
    refine XS.aloadN X5.here hexec rfl (hb hbytes d33) rfl rfl ?_
    refine XS.iloadN X5.here hexec rfl (hb hbytes d34) rfl ?_
    refine XS.iloadN X5.here hexec rfl (hb hbytes d35) rfl ?_
    exact Steps.refl _)
  obtain ⟨v8, T8, X8, E8, g8⟩ := X5.callS hexec (Cmp3.law l b A o len) hown (wks W (staticW "java/lang/String" 177 Cmp3.yN)) (wk W Cmp3.tab) (W := 0) (Nat.le_of_ble_eq_true rfl) (Nat.le_of_ble_eq_true rfl) (Nat.le_refl _) (by show 0 + len ≤ len; omega) (g := (mkF m 36 #[.val (.ref a), .val (.ref b), .val (.int (Int32.ofNat o)), .val (.int (Int32.ofNat len)), .val .null, .unset] [.int (Int32.ofNat len), .int (Int32.ofNat o), .ref b])) rfl (by rw [hml]; rfl) c7 (argsL := [.ref b, .int (Int32.ofNat o), .int (Int32.ofNat len)]) (rest := []) rfl rfl (by show 2 * 0 + 0 ≤ _; decide) (hb hbytes d36) (⟨rfl, hA.mv X5.warmed.alike hh5, l1, l2, hp⟩)
  obtain ⟨e8, z8⟩ := E8
  obtain ⟨rfl, N, n1, n2, n3, n4, n5, n6⟩ := NewArr.mv _ T5 s _ _ hh5.symm (Vm.Alike.refl _) rfl e8
  rw [hh5] at z8
  have hB1 := hB.keep X8.warmed.alike (n6 _ _ hB.1)
  have hne : s.heap.size ≠ a := (Nat.ne_of_lt (Array.getElem?_eq_some_iff.mp hB.1).1).symm
  have c9 : Steps p.tables e below (s₁.setTop (entryFrame m #[.ref a, .ref b, .int (Int32.ofNat o), .int (Int32.ofNat len), .null] 6)) (T8.setTop (mkF m 39 #[.val (.ref a), .val (.ref b), .val (.int (Int32.ofNat o)), .val (.int (Int32.ofNat len)), .val .null, .unset] [.ref s.heap.size])) := g8
  have c10 : Steps p.tables e below (s₁.setTop (entryFrame m #[.ref a, .ref b, .int (Int32.ofNat o), .int (Int32.ofNat len), .null] 6)) (T8.setTop (mkF m 45 #[.val (.ref a), .val (.ref b), .val (.int (Int32.ofNat o)), .val (.int (Int32.ofNat len)), .val .null, .val (.ref s.heap.size)] [.int (Int32.ofNat N.slots.size), .ref s.heap.size, .ref a])) := by
    have hc : Steps p.tables e below (s₁.setTop (entryFrame m #[.ref a, .ref b, .int (Int32.ofNat o), .int (Int32.ofNat len), .null] 6)) (T8.setTop (mkF m 45 #[.val (.ref a), .val (.ref b), .val (.int (Int32.ofNat o)), .val (.int (Int32.ofNat len)), .val .null, .val (.ref s.heap.size)] [.int (Int32.ofNat len), .ref s.heap.size, .ref a])) := c9.trans (by
      refine XS.astore X8.here hexec rfl (hb hbytes d39) rfl rfl rfl ?_
      refine XS.aloadN X8.here hexec rfl (hb hbytes d41) rfl rfl ?_
      refine XS.aload X8.here hexec rfl (hb hbytes d42) rfl rfl ?_
      refine XS.iloadN X8.here hexec rfl (hb hbytes d44) rfl ?_
      exact Steps.refl _)
    rw [n4]; exact hc
  obtain ⟨v11, T11, X11, E11, g11⟩ := X8.callS hexec (CodL.law l s.heap.size N) hown (wks W (staticW "java/lang/String" 47 CodL.yN)) (wk W CodL.tab) (W := 1) (Nat.le_of_ble_eq_true rfl) (Nat.le_of_ble_eq_true rfl) (Nat.le_refl _) (by show 0 + len + 0 ≤ len; omega) (g := (mkF m 45 #[.val (.ref a), .val (.ref b), .val (.int (Int32.ofNat o)), .val (.int (Int32.ofNat len)), .val .null, .val (.ref s.heap.size)] [.int (Int32.ofNat N.slots.size), .ref s.heap.size, .ref a])) rfl (by rw [hml]; rfl) c10 (argsL := [.ref s.heap.size, .int (Int32.ofNat N.slots.size)]) (rest := [.ref a]) rfl rfl (by show 2 * 0 + (1 + 0) ≤ _; decide) (hb hbytes d45) (⟨rfl, n1⟩)
  obtain ⟨rfl, q11⟩ := E11
  have hB11 := hB1.mv (X8.warmed.alike.symm.trans X11.warmed.alike) q11
  have c12 : Steps p.tables e below (s₁.setTop (entryFrame m #[.ref a, .ref b, .int (Int32.ofNat o), .int (Int32.ofNat len), .null] 6)) (T11.setTop (mkF m 48 #[.val (.ref a), .val (.ref b), .val (.int (Int32.ofNat o)), .val (.int (Int32.ofNat len)), .val .null, .val (.ref s.heap.size)] [.int 0, .ref a])) := g11
  obtain ⟨T13, X13, p13, bl13, sl13, st13⟩ := X11.finit hexec hown (wk W (.fieldLink "java/lang/String" 15 "java/lang/String" "coder" "B")) (Or.inr ⟨_, (wk W (.laysFinal "java/lang/String" "java/lang/String" "coder" "B"))⟩) (Or.inl ⟨rfl, hnm⟩) f2 (Or.inl rfl) hB11 (t := .byte) (by decide +kernel) rfl (g := (mkF m 48 #[.val (.ref a), .val (.ref b), .val (.int (Int32.ofNat o)), .val (.int (Int32.ofNat len)), .val .null, .val (.ref s.heap.size)] [.int 0, .ref a])) rfl (rest := []) rfl (hb hbytes d48)
  have c14 : Steps p.tables e below (s₁.setTop (entryFrame m #[.ref a, .ref b, .int (Int32.ofNat o), .int (Int32.ofNat len), .null] 6)) (T13.setTop (mkF m 54 #[.val (.ref a), .val (.ref b), .val (.int (Int32.ofNat o)), .val (.int (Int32.ofNat len)), .val .null, .val (.ref s.heap.size)] [.ref s.heap.size, .ref a])) := (c12.trans (st13 _ (Steps.refl _))).trans (by
    refine XS.aloadN X13.here hexec rfl (hb hbytes d51) rfl rfl ?_
    refine XS.aload X13.here hexec rfl (hb hbytes d52) rfl rfl ?_
    exact Steps.refl _)
  obtain ⟨T15, X15, p15, bl15, sl15, st15⟩ := X13.finit hexec hown (wk W (.fieldLink "java/lang/String" 9 "java/lang/String" "value" "[B")) (Or.inr ⟨_, (wk W (.laysFinal "java/lang/String" "java/lang/String" "value" "[B"))⟩) (Or.inl ⟨rfl, hnm⟩) f1 (Or.inl rfl) bl13 (t := (.array .byte)) (by decide +kernel) rfl (g := (mkF m 54 #[.val (.ref a), .val (.ref b), .val (.int (Int32.ofNat o)), .val (.int (Int32.ofNat len)), .val .null, .val (.ref s.heap.size)] [.ref s.heap.size, .ref a])) rfl (rest := []) rfl (hb hbytes d54)
  have c16 : Steps p.tables e below (s₁.setTop (entryFrame m #[.ref a, .ref b, .int (Int32.ofNat o), .int (Int32.ofNat len), .null] 6)) (T15.setTop (mkF m 57 #[.val (.ref a), .val (.ref b), .val (.int (Int32.ofNat o)), .val (.int (Int32.ofNat len)), .val .null, .val (.ref s.heap.size)] [])) := c14.trans (st15 _ (Steps.refl _))
  have ap := apart (Or.inr ⟨_, (wk W (.laysFinal "java/lang/String" "java/lang/String" "value" "[B"))⟩) (Or.inr ⟨_, (wk W (.laysFinal "java/lang/String" "java/lang/String" "coder" "B"))⟩) f1 f2 (t₁ := .array .byte) (t₂ := .byte) (by decide +kernel) (by decide +kernel) (by decide)
  have al := X8.warmed.alike.symm.trans X15.warmed.alike
  have n7 : T11.heap[s.heap.size]? = some N := by rw [q11]; exact n1.1
  exact ⟨T15, none, _, _, _, X15, by simp, rfl, by omega, (fun _ => rfl), ⟨rfl, _, N, bl15, ((Same.refl D _).set _ (by simp)).set _ (by simp), sl15, (Cell.slots_setSlot_ne _ ap).trans sl13, n1.keep al (p15.other hne (p13.other hne n7)), n2, by rw [al.findClass]; exact n3, n4, n5, fun y c h1 h2 => p15.other h1 (p13.other h1 (by rw [q11]; exact n6 y c h2)), by rw [p15.2.2, p13.2.2, q11]; exact z8⟩, fun fs hl => c16.trans (X15.returnOut hexec hret (hb hbytes d57) hl)⟩
end New4
namespace New1
def yN : MethodName := ⟨"java/lang/String", "<init>", "([C)V"⟩
abbrev yB : ByteArray := jdk_42_method_3_code
theorem d0 : decode yB 0 = .ok (.aload_n 0, 1) := by decide +kernel
theorem d1 : decode yB 1 = .ok (.aload_n 1, 1) := by decide +kernel
theorem d2 : decode yB 2 = .ok (.iconst 0, 1) := by decide +kernel
theorem d3 : decode yB 3 = .ok (.aload_n 1, 1) := by decide +kernel
theorem d4 : decode yB 4 = .ok (.arraylength, 1) := by decide +kernel
theorem d5 : decode yB 5 = .ok (.aconst_null, 1) := by decide +kernel
theorem d6 : decode yB 6 = .ok (.invokespecial 27, 3) := by decide +kernel
theorem d9 : decode yB 9 = .ok (.return_, 1) := by decide +kernel
def site : List Cond := [New4.tab] ++ initW "java/lang/String" 27 New4.yN
def tab : Cond := tabOf yN yB 2 none site
def P (a : Addr) (D : Cell) (fV fC : Field) (b : Addr) (A : Cell) (z : Int32) (args : Array Value) (s : State) : Prop := args = #[.ref a, .ref b] ∧ Blank "java/lang/String" a D s ∧ Found "java/lang/String" "value" "[B" fV s ∧ Found "java/lang/String" "coder" "B" fC s ∧ Ch b A s ∧ StaticIs s "java/lang/String" "COMPACT_STRINGS" "Z" (.int z) ∧ ¬ z = 0 ∧ 0 < A.slots.size ∧ A.slots.size ≤ 536870912 ∧ ∀ i, i < A.slots.size → ¬ 255 < cv A i
def E (a : Addr) (D : Cell) (fV fC : Field) (A : Cell) (r : Option Value) (s u : State) : Prop := Got a D fV fC A 0 A.slots.size r s u
/-- new String(chars), not empty, no char above 255: a Latin-1 String of their low bytes -/
theorem law (l : Launch) (a : Addr) (D : Cell) (fV fC : Field) (b : Addr) (A : Cell) (z : Int32) : Law l yN 2 1 3 52 yB 2 none site (P a D fV fC b A z) (E a D fV fC A) [⟨a, fC.slot⟩, ⟨a, fV.slot⟩] 1 A.slots.size := by
  refine Law.of_walk (plainFor_of_name (by decide +kernel)) (by decide +kernel) (by decide +kernel) (by decide) (fun _ _ h => by rw [h.1]; rfl) (fun _ U U' hal hh h => ⟨h.1, h.2.1.mv hal hh, h.2.2.1.al hal, h.2.2.2.1.al hal, h.2.2.2.2.1.mv hal hh, h.2.2.2.2.2.1.there hal hh, h.2.2.2.2.2.2⟩) (fun r U U' V V' h1 hal h2 h => Got.mv r U U' V V' h1 hal h2 h) ?_
  intro p e s m args below meth c s₁ X0 hexec hbytes hml hret hlk hnm hown hh0 W hP
  obtain ⟨rfl, hB, f1, f2, hA, s1, hz, l0, l2, hp⟩ := hP
  have c1 : Steps p.tables e below (s₁.setTop (entryFrame m #[.ref a, .ref b] 2)) (s₁.setTop (mkF m 0 #[.val (.ref a), .val (.ref b)] [])) := entry rfl
  have c2 : Steps p.tables e below (s₁.setTop (entryFrame m #[.ref a, .ref b] 2)) (s₁.setTop (mkF m 6 #[.val (.ref a), .val (.ref b)] [.null, .int (Int32.ofNat A.slots.size), .int 0, .ref b, .ref a])) := c1.trans (by
    refine XS.aloadN X0.here hexec rfl (hb hbytes d0) rfl rfl ?_
    refine XS.aloadN X0.here hexec rfl (hb hbytes d1) rfl rfl ?_
    refine iconstV X0.here hexec rfl 0 (hb hbytes d2) (by decide) ?_
    refine XS.aloadN X0.here hexec rfl (hb hbytes d3) rfl rfl ?_
    refine X0.alen hexec (hA.1.mv X0.warmed.alike hh0) rfl rfl (hb hbytes d4) ?_
    refine XS.aconstNull X0.here hexec rfl (hb hbytes d5) ?_
    exact Steps.refl _)
  obtain ⟨v3, T3, X3, E3, g3⟩ := X0.callN hexec (New4.law l a D fV fC b A z 0 A.slots.size) rfl hown (wks W (initW "java/lang/String" 27 New4.yN)) (W New4.tab (by simp only [site, List.mem_cons, List.mem_append, true_or, or_true])) (W := 0) (Nat.le_of_ble_eq_true rfl) (Nat.le_of_ble_eq_true rfl) (Nat.le_refl _) (by show 0 + A.slots.size ≤ A.slots.size; omega) (g := (mkF m 6 #[.val (.ref a), .val (.ref b)] [.null, .int (Int32.ofNat A.slots.size), .int (Int32.ofNat 0), .ref b, .ref a])) rfl (by rw [hml]; rfl) c2 (argsL := [.ref b, .int (Int32.ofNat 0), .int (Int32.ofNat A.slots.size), .null]) (rest := []) rfl rfl (by show 2 * 0 + 0 ≤ _; decide) (hb hbytes d6) (⟨rfl, hB.mv X0.warmed.alike hh0, f1.al X0.warmed.alike, f2.al X0.warmed.alike, hA.mv X0.warmed.alike hh0, s1.there X0.warmed.alike hh0, hz, l0, by omega, l2, fun i hi => by rw [Nat.zero_add]; exact hp i hi⟩)
  have e0 := Got.mv _ s₁ s _ _ hh0.symm (Vm.Alike.refl _) rfl E3
  obtain rfl := e0.1
  have c4 : Steps p.tables e below (s₁.setTop (entryFrame m #[.ref a, .ref b] 2)) (T3.setTop (mkF m 9 #[.val (.ref a), .val (.ref b)] [])) := g3
  exact ⟨T3, none, _, _, _, X3, by simp, rfl, by omega, (fun _ => rfl), e0, fun fs hl => c4.trans (X3.returnOut hexec hret (hb hbytes d9) hl)⟩
theorem pays {l : Launch} {R : Room} {p : Program} {e : Env} {below : List Frame} {s : State} {sargs : Array Value} {len W : Nat} (a : Addr) (D : Cell) (fV fC : Field) (b : Addr) (A : Cell) (z : Int32) (htab : tab.before sargs s = true) (hfr : 4 ≤ R.frames) (hlo : W + 65 ≤ R.locals) :
    Back l R p e below s sargs yN len W (fun A₁ a₁ => A₁.cells + 1 ≤ R.cells ∧ A₁.slots + A.slots.size ≤ R.slots ∧ P a D fV fC b A z a₁ A₁.U) (fun A₁ _ v₁ B₁ => E a D fV fC A v₁ A₁.U B₁.U ∧ B₁.locs = A₁.locs ++ [⟨a, fC.slot⟩, ⟨a, fV.slot⟩] ∧ B₁.cells = A₁.cells + 1 ∧ B₁.slots = A₁.slots + A.slots.size) :=
  (law l a D fV fC b A z).pays htab hfr (by omega)
end New1
end StrChars
namespace StrChars.Road
open Jvm Sem ClassFile Op Lib Jvm.Stand Jvm.Free Jvm.Free.XT
open Jvm.Lib.Cold (StaticIs)
abbrev ST : String := "java/lang/String"
/-- every table word that New1's law asks, flat -/
abbrev words : List Jvm.Cond := [.code New1.yN New1.yB 2 none, .initialized ST, .methodLink ST 27 New4.yN, .instanceMethod New4.yN,
  .code New4.yN New4.yB 6 none, .fieldLink ST 38 ST "COMPACT_STRINGS" "Z", .laysFinal ST ST "value" "[B", .fieldLink ST 9 ST "value" "[B", .laysFinal ST ST "coder" "B", .fieldLink ST 15 ST "coder" "B",
  .methodLink ST 1 Lib.objectInit, .instanceMethod Lib.objectInit, .code Lib.objectInit ⟨#[0xb1]⟩ 1 none, .methodLink ST 177 Cmp3.yN, .static Cmp3.yN, .methodLink ST 47 CodL.yN, .static CodL.yN,
  .code Cmp3.yN Cmp3.yB 6 (some (.array .byte)), .initialized U16, .arrayClass .byte, .methodLink U16 115 Cmp5.yN, .static Cmp5.yN, .code Cmp5.yN Cmp5.yB 7 (some .int), .code CodL.yN CodL.yB 2 (some .byte)]
theorem tab_of {a : Array Value} {s : State} (h : ∀ w ∈ words, w.before a s = true) : New1.tab.before a s = true := by
  have h5 : Cmp5.tab.before a s = true := unparts (wk h (.code Cmp5.yN Cmp5.yB 7 (some .int))) (wks h (.initialized Cmp5.yN.cls :: Cmp5.site))
  have hc : CodL.tab.before a s = true := unparts (wk h (.code CodL.yN CodL.yB 2 (some .byte))) (wks h (.initialized CodL.yN.cls :: CodL.site))
  have q5 : ∀ w ∈ Cmp5.tab :: words, w.before a s = true := fun w hw => (List.mem_cons.mp hw).elim (fun e => e ▸ h5) (h w)
  have h3 : Cmp3.tab.before a s = true := unparts (wk q5 (.code Cmp3.yN Cmp3.yB 6 (some (.array .byte)))) (wks q5 (.initialized Cmp3.yN.cls :: Cmp3.site))
  have q3 : ∀ w ∈ Cmp3.tab :: CodL.tab :: words, w.before a s = true := fun w hw => (List.mem_cons.mp hw).elim (fun e => e ▸ h3) fun hw => (List.mem_cons.mp hw).elim (fun e => e ▸ hc) (h w)
  have h4 : New4.tab.before a s = true := unparts (wk q3 (.code New4.yN New4.yB 6 none)) (wks q3 (.initialized New4.yN.cls :: New4.site))
  have q4 : ∀ w ∈ New4.tab :: words, w.before a s = true := fun w hw => (List.mem_cons.mp hw).elim (fun e => e ▸ h4) (h w)
  exact unparts (wk q4 (.code New1.yN New1.yB 2 none)) (wks q4 (.initialized New1.yN.cls :: New1.site))
/-- the words ride from the start Z to the walk's own state -/
theorem moved {Z s : State} {a0 args : Array Value} (hZ : Z.Warmed39 s.vm) (hw : ∀ d ∈ words, d.before a0 Z = true) : ∀ d ∈ words, d.before args s = true := fun d hd => by
  have q := hw d hd
  have t : ∀ d ∈ words, d = .arrayClass .byte ∨ (d.onTables && d.keepsFace) = true := by decide +kernel
  rcases t d hd with rfl | t
  · exact RoadKit.mvA hZ q
  · exact RoadKit.mv hZ q t
/-- WHAT COMES BACK, over the tables of the start Z: h the heap at the call, h' behind it -/
def Q (Z : State) (x : Addr) (A : Cell) (h : Heap) (v : Option Value) (h' : Heap) (L : List Loc) : Prop := v = none ∧ (∀ y ∈ L, y.base = x) ∧ RoadKit.Keep h h' [x] ∧ h'.size = h.size + 1 ∧ RoadKit.Exa Z h' x ST ∧ RoadKit.Fld Z h' x ST "value" "[B" (.ref h.size) ∧ RoadKit.Fld Z h' x ST "coder" "B" (.int 0) ∧
  (∃ V : Cell, RoadKit.Arr Z h' h.size V .byte ∧ V.vm = .none ∧ Z.vm.findClass "[B" = some V.cls ∧ V.slots.size = A.slots.size ∧ ∀ j, j < A.slots.size → V.slots[j]? = some (.int (lo8 (cv A j)))) ∧
  ∀ (O n d : String) (w : Value), RoadKit.Fld Z h x O n d w → RoadKit.slotOf Z O n d ≠ RoadKit.slotOf Z ST "value" "[B" → RoadKit.slotOf Z O n d ≠ RoadKit.slotOf Z ST "coder" "B" → RoadKit.Fld Z h' x O n d w
/-- **new String(chars) AT A CALL, IN THE ROAD'S FORM**: for specialBack behind newO: x the fresh String, b the char[] with the cell A -/
theorem back {p : Program} {l : Launch} {e : Env} {R : Room} {s : State} {args : Array Value} {below : List Frame} {len W : Nat} {Z : State} {a0 : Array Value} {h : Heap} (hZ : Z.Warmed39 s.vm) (hw : ∀ d ∈ words, d.before a0 Z = true) {kI : Nat} (wi : (Jvm.Cond.instantiable ST kI).before a0 Z = true)
    {x b : Addr} {A : Cell} {z : Int32} {v0 c0 : Value} (E : RoadKit.Exa Z h x ST) (V : RoadKit.Fld Z h x ST "value" "[B" v0) (C : RoadKit.Fld Z h x ST "coder" "B" c0) (K : RoadKit.Arr Z h b A .char) (hty : Typed .char A) (S : RoadKit.Sta Z h ST "COMPACT_STRINGS" "Z" (.int z)) (hz : ¬ z = 0)
    (l0 : 0 < A.slots.size) (l2 : A.slots.size ≤ 536870912) (hp : ∀ i, i < A.slots.size → ¬ 255 < cv A i) (hfr : 4 ≤ R.frames) (hlo : W + 65 ≤ R.locals) :
    Back l R p e below s args New1.yN len W (fun P a => a = #[.ref x, .ref b] ∧ P.U.heap = h ∧ P.cells + 1 ≤ R.cells ∧ P.slots + A.slots.size ≤ R.slots)
      (fun P _ v B => ∃ L, Q Z x A h v B.U.heap L ∧ B.locs = P.locs ++ L ∧ B.cells = P.cells + 1 ∧ B.slots = P.slots + A.slots.size) := by
  intro m meth c P g ig mk a X hg hsize hdg hW hn hp'
  obtain ⟨rfl, rfl, r1, r2⟩ := hp'
  have al : Z.vm.Alike P.U.vm := hZ.alike.trans X.warmed.alike
  obtain ⟨D, cfV, kV, iV, fV, hD, gV, stV, knV, obV, asV, slV⟩ := id V
  obtain ⟨D', cfC, kC, iC, fC, hD', gC, stC, -, -, asC, slC⟩ := id C
  cases hD.symm.trans hD'
  obtain ⟨D2, kD, e1, e2, e3, e4, e5⟩ := id E
  cases hD.symm.trans e1
  obtain ⟨c2, k2, i1, i2, i3, -⟩ := Cond.instantiable_spec wi
  cases e2.symm.trans i1
  cases e3.symm.trans i2
  obtain ⟨kU, u1, u2⟩ := al.2.2 _ _ e3
  have hB : Blank ST x D P.U := ⟨hD, ⟨knV, fun q hq => by rw [hq] at obV; cases obV⟩, by rw [al.findClass]; exact e2, kU, u1, by rw [u2]; exact i3, by rw [u2]; exact e5 i3⟩
  have F1 : Found ST "value" "[B" fV P.U := ⟨SBG.found_only al ⟨cfV, kV, iV, gV⟩, stV⟩
  have F2 : Found ST "coder" "B" fC P.U := ⟨SBG.found_only al ⟨cfC, kC, iC, gC⟩, stC⟩
  have hA : Ch b A P.U := ⟨⟨K.1, State.isArrayOf_alike al K.2.1, K.2.2, by omega⟩, hty⟩
  have hS : StaticIs P.U ST "COMPACT_STRINGS" "Z" (.int z) := by
    obtain ⟨cfS, iS, kS, fS, st, cS, t1, t2, t3, t4, t5, t6, t7⟩ := S
    exact StaticIs.there (s := { Z with heap := P.U.heap }) ⟨cfS, iS, kS, fS, st, cS, t1, t2, t3, t4, t5, (fun q => by rw [q] at t6; cases t6), t7⟩ al rfl
  obtain ⟨v, B, X', ⟨⟨hv, E', V', q1, q2, q3, q4, q5, q6, q7, q8, q9, q10, q11⟩, hl, hc, hs⟩, st⟩ := New1.pays x D fV fC b A z (tab_of (moved hZ hw)) hfr hlo m meth c P g ig mk _ X hg hsize hdg hW hn ⟨r1, r2, rfl, hB, F1, F2, hA, hS, hz, l0, l2, hp⟩
  have al' : Z.vm.Alike B.U.vm := hZ.alike.trans X'.warmed.alike
  have hsz : E'.slots.size = D.slots.size := by
    obtain ⟨-, -, -, kB, w1, w2, w3⟩ := q1
    obtain ⟨kB', y1, y2⟩ := al'.2.2 _ _ e3
    rw [q2.2.1] at w1
    cases w1.symm.trans y1
    rw [w3, e5 i3, y2]
  refine ⟨v, B, X', ⟨_, ⟨hv, ?_, ⟨by omega, fun y cy hy hn' => q10 y cy (by simpa using hn') hy, fun y cy hy => ?_⟩, q11, ⟨E', _, q1.1, by rw [q2.2.1]; exact e2, by rw [q2.2.1]; exact e3, by rw [q2.1]; exact obV, fun _ => by rw [hsz]; exact e5 i3⟩,
    ⟨E', cfV, kV, iV, fV, q1.1, gV, stV, by rw [q2.1]; exact knV, by rw [q2.1]; exact obV, by rw [q2.2.1]; exact asV, q3⟩, ⟨E', cfC, kC, iC, fC, q1.1, gC, stC, by rw [q2.1]; exact knV, by rw [q2.1]; exact obV, by rw [q2.2.1]; exact asC, q4⟩,
    ⟨V', ⟨q5.1, State.isArrayOf_alike al'.symm q5.2.1, q5.2.2.1⟩, q6, by rw [← al'.findClass]; exact q7, q8, fun j hj => by have := q9 j hj; rwa [Nat.zero_add] at this⟩, fun O n d w F n1 n2 => ?_⟩, hl, hc, hs⟩, st⟩
  · intro y hy
    simp only [List.mem_cons, List.not_mem_nil, or_false] at hy
    rcases hy with rfl | rfl <;> rfl
  · by_cases q : y = x
    · subst q
      cases hD.symm.trans hy
      exact ⟨E', q1.1, q2.2.1, q2.1, hsz⟩
    · exact ⟨cy, q10 y cy q hy, rfl, rfl, rfl⟩
  · obtain ⟨D3, cf, k, i, f, g1, g2, g3, g4, g5, g6, g7⟩ := F
    cases hD.symm.trans g1
    simp only [RoadKit.slotOf, g2, gV, gC, Option.map_some, Option.getD_some] at n1 n2
    exact ⟨E', cf, k, i, f, q1.1, g2, g3, by rw [q2.1]; exact g4, by rw [q2.1]; exact g5, by rw [q2.2.1]; exact g6, by rw [q2.2.2 f.slot (by simp [n1, n2])]; exact g7⟩
end StrChars.Road
namespace StrChars.Road
open Jvm Sem ClassFile Op Lib Jvm.Stand Jvm.Free Jvm.Free.XT
/-- WHAT COMES BACK, the byte[] as a list of values -/
def QA (Z : State) (x : Addr) (zn : Int32) (cs : List Int32) (h : Heap) (v : Option Value) (h' : Heap) (L : List Loc) : Prop := v = none ∧ (∀ y ∈ L, y.base = x) ∧ RoadKit.Keep h h' [x] ∧ h'.size = h.size + 1 ∧ RoadKit.Exa Z h' x ST ∧ RoadKit.Fld Z h' x ST "value" "[B" (.ref h.size) ∧ RoadKit.Fld Z h' x ST "coder" "B" (.int 0) ∧
  (∃ kb, Z.vm.findClass "[B" = some kb ∧ RoadKit.Arv Z h' h.size kb .byte zn (cs.map fun c => .int (lo8 c)) (.int 0)) ∧
  ∀ (O n d : String) (w : Value), RoadKit.Fld Z h x O n d w → RoadKit.slotOf Z O n d ≠ RoadKit.slotOf Z ST "value" "[B" → RoadKit.slotOf Z O n d ≠ RoadKit.slotOf Z ST "coder" "B" → RoadKit.Fld Z h' x O n d w
/-- **new String(chars) AT A CALL, THE ARRAYS AS LISTS**: the char[] at b holds cs, not empty, no char above 255 -/
theorem backArv {p : Program} {l : Launch} {e : Env} {R : Room} {s : State} {args : Array Value} {below : List Frame} {len W : Nat} {Z : State} {a0 : Array Value} {h : Heap} (hZ : Z.Warmed39 s.vm) (hw : ∀ d ∈ words, d.before a0 Z = true) {kI : Nat} (wi : (Jvm.Cond.instantiable ST kI).before a0 Z = true)
    {x b : Addr} {k : ClassId} {zn z : Int32} {cs : List Int32} {dv v0 c0 : Value} (E : RoadKit.Exa Z h x ST) (V : RoadKit.Fld Z h x ST "value" "[B" v0) (C : RoadKit.Fld Z h x ST "coder" "B" c0) (K : RoadKit.Arv Z h b k .char zn (cs.map Value.int) dv) (S : RoadKit.Sta Z h ST "COMPACT_STRINGS" "Z" (.int z)) (hz : ¬ z = 0)
    (hlen : zn.toNatClampNeg = cs.length) (h0 : 0 < cs.length) (hbig : cs.length ≤ 536870912) (hall : ∀ c ∈ cs, ¬ 255 < c) (hfr : 4 ≤ R.frames) (hlo : W + 65 ≤ R.locals) :
    Back l R p e below s args New1.yN len W (fun P a => a = #[.ref x, .ref b] ∧ P.U.heap = h ∧ P.cells + 1 ≤ R.cells ∧ P.slots + cs.length ≤ R.slots)
      (fun P _ v B => ∃ L, QA Z x zn cs h v B.U.heap L ∧ B.locs = P.locs ++ L ∧ B.cells = P.cells + 1 ∧ B.slots = P.slots + cs.length) := by
  obtain ⟨A, K1, K2, K3, K4, K5, K6⟩ := K
  have e : A.slots.size = cs.length := K3.trans hlen
  have hat : ∀ (i : Nat) (hi : i < cs.length), A.slots[i]? = some (.int cs[i]) := fun i hi => by rw [K5 i (by omega)]; simp [List.getD_eq_getElem?_getD, hi]
  have hcv : ∀ (i : Nat) (hi : i < cs.length), cv A i = cs[i] := fun i hi => by unfold cv; rw [hat i hi]
  have hty : Typed .char A := fun i v hv => by
    have hi : i < A.slots.size := (Array.getElem?_eq_some_iff.mp hv).1
    have q := K5 i hi
    rw [hv] at q
    rw [Option.some.inj q]
    exact K6 i hi
  refine Back.mono (back hZ hw wi E V C K1 hty S hz (by omega) (by omega) (fun i hi => by rw [hcv i (by omega)]; exact hall _ (List.getElem_mem _)) hfr hlo) (fun P a hp => ⟨hp.1, hp.2.1, hp.2.2.1, by rw [e]; exact hp.2.2.2⟩) (fun P a v B hp hq => ?_)
  obtain ⟨L, ⟨q1, q2, q3, q4, q5, q6, q7, ⟨V', v1, v2, v3, v4, v5⟩, q9⟩, hl, hc, hs⟩ := hq
  refine ⟨L, ⟨q1, q2, q3, q4, q5, q6, q7, ⟨V'.cls, v3, V', v1, rfl, by rw [v4, e, hlen], K4, fun i hi => ?_, fun i hi => ?_⟩, q9⟩, hl, hc, by rw [hs, e]⟩
  · have hi' : i < cs.length := by omega
    rw [v5 i (by omega), hcv i hi']; simp [List.getD_eq_getElem?_getD, hi']
  · have hi' : i < cs.length := by omega
    simp only [List.getD_eq_getElem?_getD, List.getElem?_map, List.getElem?_eq_getElem hi', Option.map_some, Option.getD_some]
    exact fits_lo8 _
end StrChars.Road
namespace StrChars.Road
open Jvm Sem ClassFile Op Lib Jvm.Stand Jvm.Free Jvm.Free.XT
/-- WHAT COMES BACK, in the writer's own shape -/
def QV (Z : State) (x : Addr) (N : Int32) (bs : List Int32) (h : Heap) (n0 : Nat) (v : Option Value) (h' : Heap) (L : List Loc) : Prop := v = none ∧ RoadKit.Fr n0 L ∧ RoadKit.Keep h h' [x] ∧ RoadKit.Exa Z h' x ST ∧ RoadKit.Fld Z h' x ST "coder" "B" (.int 0) ∧
  ∃ (t : Addr) (kb : ClassId), n0 ≤ t ∧ h.size ≤ t ∧ ¬ t = x ∧ RoadKit.Fld Z h' x ST "value" "[B" (.ref t) ∧ RoadKit.Arv Z h' t kb .byte N (bs.map Value.int) (.int 0)
/-- **new String(chars) AT A CALL, FOR THE WRITER**: a char[] of n known ints, each 0 to 255 -/
theorem backV {p : Program} {l : Launch} {e : Env} {R : Room} {s : State} {args : Array Value} {below : List Frame} {len W : Nat} {Z : State} {a0 : Array Value} {h : Heap} (hZ : Z.Warmed39 s.vm) (hw : ∀ d ∈ words, d.before a0 Z = true) {kI : Nat} (wi : (Jvm.Cond.instantiable ST kI).before a0 Z = true)
    {x b : Addr} {kC : ClassId} {cs bs : List Int32} {d v0 c0 : Value} {z N : Int32} {n n0 : Nat} (hx0 : n0 ≤ x) (hh0 : n0 ≤ h.size) (E : RoadKit.Exa Z h x ST) (V : RoadKit.Fld Z h x ST "value" "[B" v0) (C : RoadKit.Fld Z h x ST "coder" "B" c0) (K : RoadKit.Arv Z h b kC .char N (cs.map Value.int) d) (S : RoadKit.Sta Z h ST "COMPACT_STRINGS" "Z" (.int z)) (hz : ¬ z = 0)
    (hn : cs.length = n) (hN : N = Int32.ofNat n) (l0 : 0 < n) (l2 : n ≤ 4000) (hp : ∀ c ∈ cs, ¬ c < 0 ∧ ¬ (255 : Int32) < c) (hb : bs = cs.map (fun c => c.toInt8.toInt32)) (hfr : 4 ≤ R.frames) (hlo : W + 65 ≤ R.locals) :
    Back l R p e below s args (⟨"java/lang/String", "<init>", "([C)V"⟩ : MethodName) len W (fun P a => a = #[.ref x, .ref b] ∧ P.U.heap = h ∧ P.cells + 1 ≤ R.cells ∧ P.slots + n ≤ R.slots)
      (fun P _ v B => ∃ L, QV Z x N bs h n0 v B.U.heap L ∧ B.locs = P.locs ++ L ∧ B.cells = P.cells + 1 ∧ B.slots = P.slots + n) := by
  subst hn hN hb
  refine Back.mono (backArv hZ hw wi E V C K S hz (n32 (by omega)) l0 (by omega) (fun c hc => (hp c hc).2) hfr hlo) (fun P a hp => hp) (fun P a v B hp hq => ?_)
  obtain ⟨L, ⟨q1, q2, q3, q4, q5, q6, q7, ⟨kb, v1, v2⟩, q9⟩, hl, hc, hs⟩ := hq
  exact ⟨L, ⟨q1, fun y hy => by rw [q2 y hy]; exact hx0, q3, q5, q7, h.size, kb, hh0, Nat.le_refl _, Nat.ne_of_gt E.lt, q6, by rw [List.map_map]; exact v2⟩, hl, hc, hs⟩
end StrChars.Road
end Jvm.Pilot.@@N@@
namespace Jvm.Pilot.@@N@@
open Jvm Jvm.ClassFile Sem Op Lib Jvm.Free Jvm.Stand Jvm.LawKit Jvm.RoadKit Bundle Jvm.Pilot.@@N@@.Jvm.D
section OwnKit
variable {p : Program} {l : Launch} {e : Env} {R : Room} {s : State} {m : MethodId} {args : Array Value} {below : List Frame} {meth : Method} {c : Code} {T T' U Z : State} {locs : List Loc} {cells slots : Nat} {h h' h0 : Heap} {a b : Addr} {n0 : Nat}
abbrev vI (x : Int32) : Slot := .val (.int x)
abbrev vJ (x : Int64) : Slot := .val (.long x)
abbrev vR (x : Addr) : Slot := .val (.ref x)
abbrev vN : Slot := .val .null
abbrev vU : Slot := .unset
abbrev vS : Slot := .second
theorem lb {a b : Nat} (q : Nat.ble a b = true) : a ≤ b := Nat.le_of_ble_eq_true q
/-- from T with the frame f on top the invocation comes to its end, and P holds there -/
def own_Fin (tb : Tables) (e : Env) (below : List Frame) (P : State → Outcome → Prop) (T : State) (f : JFrame) : Prop := ∃ s₂ o, Steps tb e below (T.setTop f) s₂ ∧ s₂.status = .running ∧ Ended s₂ below o ∧ P s₂ o
theorem own_go {tb : Tables} {P : State → Outcome → Prop} {g g' : JFrame} (k : ∀ t, Steps tb e below (T'.setTop g') t → Steps tb e below (T.setTop g) t) (q : own_Fin tb e below P T' g') : own_Fin tb e below P T g := by
  obtain ⟨s₂, o, a, r⟩ := q; exact ⟨s₂, o, k _ a, r⟩
theorem own_to {tb : Tables} {P : State → Outcome → Prop} {g g' : JFrame} (k : Steps tb e below (T.setTop g) (T'.setTop g')) (q : own_Fin tb e below P T' g') : own_Fin tb e below P T g := by
  obtain ⟨s₂, o, a, r⟩ := q; exact ⟨s₂, o, k.trans a, r⟩
def own_PN (s : State) (Q : Option Value → Heap → List Loc → Prop) (rc rs : Nat) : State → Outcome → Prop := fun U o => ∃ v L, o = .returned v ∧ Q v U.heap L ∧ FrameEnd s o U L rc rs
/-- a body's contract: from the heap h0 it returns, and Q says what -/
def own_CN (l : Launch) (Z : State) (y : MethodName) (bytes : ByteArray) (maxL : Nat) (ret : Option FieldType) (ws : List Jvm.Cond) (rm : Room) (as : Array Value) (h0 : Heap) (Q : Option Value → Heap → List Loc → Prop) : Prop :=
  MetFree l y (head1 (Jvm.Cond.code y bytes maxL ret :: ws) rm) (fun a U => a = as ∧ Z.Warmed39 U.vm ∧ U.heap = h0) (fun _ _ _ _ _ => True) (fun _ U o U' => ∃ v L, o = .returned v ∧ Q v U'.heap L ∧ FrameEnd U o U' L rm.cells rm.slots)
theorem own_entryN {y : MethodName} {bytes : ByteArray} {maxL : Nat} {ret : Option FieldType} {ws : List Jvm.Cond} {rm : Room} {as : Array Value} {Q : Option Value → Heap → List Loc → Prop} (hpn : plainFor y = true)
    (body : ∀ (p : Program) (e : Env) (s : State) (m : MethodId) (below : List Frame) (meth : Method) (c : Code) (s₁ : State), p.tables.exec = Jvm.exec → c.code = bytes → c.maxLocals = maxL → s.vm.findClass y.cls = some m.cls → meth.name = y.name → meth.sig.returnType = ret → meth.locks = false → Z.Warmed39 s.vm → s.heap = h0 →
      Stand p l e rm s m as below meth c s₁ [] 0 0 → s₁.heap = h0 → own_Fin p.tables e below (own_PN s Q rm.cells rm.slots) s₁ (entryFrame m as maxL)) : own_CN l Z y bytes maxL ret ws rm as h0 Q := by
  refine MetFree.of_bodySF hpn hisR ?_
  intro p e s m args below meth c s₁ Bd hml0 hP hK
  obtain ⟨rfl, hZ, hh⟩ := hP
  exact body p e s m below meth c s₁ Bd.exec Bd.bytes hml0 (findClass_of_methodNamed Bd.named) (name_of_methodNamed Bd.named Bd.method).1 Bd.returns Bd.notSynchronized hZ hh (Stand.of_body Bd) (by rw [← hh, Bd.state]; rfl)
theorem own_leaveN (X : Stand p l e R s m args below meth c T locs cells slots) (hlk : meth.locks = false) {Q : Option Value → Heap → List Loc → Prop} {v : Option Value} (hv : meth.sig.returnType = none → v = none) {rc rs : Nat} (hc : cells ≤ rc) (hs : slots ≤ rs) (hQ : Q v T.heap locs) {f : JFrame}
    (st : ∀ fs, (∀ (f : JFrame) (acts : List Action), f.method = m → f.locked = none → f.entered = [] → (doReturn e (T.setTop f) acts v).1 = T.setFrames fs) → Steps p.tables e below (T.setTop f) (T.setFrames fs)) : own_Fin p.tables e below (own_PN s Q rc rs) T f := by
  obtain ⟨fs, hr, hrun, hended, hW, hsame⟩ := X.leave hv hlk
  exact ⟨_, _, st fs hr, hrun, hended, _, _, rfl, hQ, ⟨_, rfl⟩, hW, hsame.mono hc hs⟩
theorem own_w {a0 : Array Value} (hw : ∀ d ∈ tables_1, d.before a0 Z = true) (i : Nat) {d : Jvm.Cond} (q : tables_1[i]? = some d := by rfl) : d.before a0 Z = true := hw d (List.mem_of_getElem? q)
theorem own_osz (O : Old Z n0 h) : n0 ≤ h.size := O.1 ▸ O.2.1
theorem own_ne_old (q : a < Z.heap.size) (O : Old Z n0 h) (r : n0 ≤ b) : a ≠ b := O.ne q r
theorem own_ne_arv {a0 : Array Value} {C : String} {k : Nat} {kc : ClassId} {ty : FieldType} {z : Int32} {vs : List Value} {dv : Value} (F : Exa Z h a C) (wi : (Jvm.Cond.instantiable C k).before a0 Z = true) (G : Arv Z h b kc ty z vs dv) : a ≠ b := by
  obtain ⟨_, A, -⟩ := G; exact ne_arr F wi A
theorem own_cat {v : Value} (q : v.isRef = true) : v.category = 1 := by rcases ref_cases q with rfl | ⟨_, rfl⟩ <;> rfl
/-- the same place of the walk, the state another (no cell written or made meanwhile) -/
def own_at (_ : Stand p l e R s m args below meth c T locs cells slots) (T' : State) : Prop := Stand p l e R s m args below meth c T' locs cells slots
theorem own_ne_lo (q : a < h.size) (r : h.size ≤ b) : a ≠ b := Nat.ne_of_lt (Nat.lt_of_lt_of_le q r)
end OwnKit
theorem own_of255 (x : Int32) : ∃ k : Fin 256, (x &&& 255) = Int32.ofNat k.val := by
  refine ⟨⟨(x &&& 255).toBitVec.toNat, ?_⟩, ?_⟩
  · simp only [Int32.toBitVec_and, BitVec.toNat_and]
    exact Nat.lt_succ_of_le Nat.and_le_right
  · apply Int32.toBitVec_inj.mp
    show _ = BitVec.ofNat 32 _
    rw [BitVec.ofNat_toNat]; simp
theorem own_m255 (x : Int32) : ¬ (x &&& (255 : Int32)) < 0 ∧ ¬ (255 : Int32) < (x &&& (255 : Int32)) := by
  have t : ∀ k : Fin 256, ¬ (Int32.ofNat k.val) < 0 ∧ ¬ (255 : Int32) < (Int32.ofNat k.val) := by decide +kernel
  obtain ⟨k, hk⟩ := own_of255 x
  rw [hk]; exact t k
theorem own_nc255 (x : Int32) : nar .char (x &&& (255 : Int32)) = (x &&& (255 : Int32)) := i2c_mask x
theorem own_fin {c : Int32} (h : ¬ c < 0 ∧ ¬ (255 : Int32) < c) : ∃ k : Fin 256, c = Int32.ofNat k.val := by
  have h1 := h.1; have h2 := h.2
  rw [Int32.lt_iff_toInt_lt] at h1 h2
  have e0 : (0 : Int32).toInt = 0 := rfl
  have e1 : (255 : Int32).toInt = 255 := rfl
  obtain ⟨k, hk⟩ : ∃ k : Nat, c.toInt = k := ⟨c.toInt.toNat, by omega⟩
  exact ⟨⟨k, by omega⟩, Int32.toInt_inj.mp (by rw [hk, Int32.toInt_ofNat_small (by omega)])⟩
theorem own_ncl {c : Int32} (h : ¬ c < 0 ∧ ¬ (255 : Int32) < c) : nar .char c = c := by
  have t : ∀ k : Fin 256, nar .char (Int32.ofNat k.val) = Int32.ofNat k.val := by decide +kernel
  obtain ⟨k, rfl⟩ := own_fin h
  exact t k
theorem own_nc16 (x : Int32) : nar .char (x.toUInt32.toUInt16.toUInt32.toInt32) = x.toUInt32.toUInt16.toUInt32.toInt32 := by
  show (x.toUInt32.toUInt16.toUInt32.toInt32).toUInt32.toUInt16.toUInt32.toInt32 = _
  simp only [UInt32.toUInt32_toInt32, UInt16.toUInt16_toUInt32]
theorem own_b8 (x : Int32) : nar .byte (x.toInt8.toInt32) = x.toInt8.toInt32 := by
  show (x.toInt8.toInt32).toInt8.toInt32 = _
  rw [Int8.toInt8_toInt32]
theorem own_lcmp_self (a : Int64) : lcmpW a a = 0 := by simp [lcmpW]
theorem own_pos (x : Int32) (h : ¬ (x &&& (2147483647 : Int32)) = (0 : Int32)) : (0 : Int32) < (x &&& (2147483647 : Int32)) := by
  rw [Int32.lt_iff_toInt_lt]
  have e : (x &&& (2147483647 : Int32)).toBitVec.toNat ≤ 2147483647 := by
    simp only [Int32.toBitVec_and, BitVec.toNat_and]
    exact Nat.and_le_right
  have e2 : (x &&& (2147483647 : Int32)).toInt = ((x &&& (2147483647 : Int32)).toBitVec.toNat : Int) := by
    show (x &&& (2147483647 : Int32)).toBitVec.toInt = _
    rw [BitVec.toInt_eq_toNat_of_lt (by omega)]
  have e3 : (0 : Int32).toInt = 0 := rfl
  have e4 : (x &&& (2147483647 : Int32)).toInt ≠ 0 := fun q => h (Int32.toInt_inj.mp (by rw [q]; rfl))
  omega
theorem own_wide {x : Int32} (h : (0 : Int32) < x) : (1 : Int64) ≤ x.toInt64 := by
  rw [Int32.lt_iff_toInt_lt] at h
  rw [Int64.le_iff_toInt_le, Int32.toInt_toInt64]
  have e3 : (0 : Int32).toInt = 0 := rfl
  have e4 : (1 : Int64).toInt = 1 := rfl
  omega
theorem own_mul {x y : Int32} (h : (0 : Int32) < x) (k : (0 : Int32) < y) : (1 : Int64) ≤ x.toInt64 * y.toInt64 := by
  rw [Int32.lt_iff_toInt_lt] at h k
  have e3 : (0 : Int32).toInt = 0 := rfl
  have e4 : (1 : Int64).toInt = 1 := rfl
  have b1 := x.toInt_lt
  have b2 := y.toInt_lt
  have hx : 0 < x.toInt := by omega
  have hy : 0 < y.toInt := by omega
  have m1 : 1 ≤ x.toInt * y.toInt := Int.mul_pos hx hy
  have m2 : x.toInt * y.toInt ≤ 2147483647 * 2147483647 := Int.mul_le_mul (by omega) (by omega) (by omega) (by omega)
  rw [Int64.le_iff_toInt_le, Int64.toInt_mul, Int32.toInt_toInt64, Int32.toInt_toInt64, e4, Int.bmod_eq_of_le (by omega) (by omega)]
  exact m1
theorem own_ge1 {x : Int64} (h : (1 : Int64) ≤ x) : ¬ (lcmpW x (1 : Int64) < (0 : Int32)) := by
  rw [Int64.le_iff_toInt_le] at h
  unfold lcmpW
  split
  · decide
  · split
    · decide
    · rename_i h1 h2
      exfalso
      apply h2
      apply Int64.toInt_inj.mp
      rw [gt_iff_lt, Int64.lt_iff_toInt_lt] at h1
      omega
theorem own_hws {a0 : Array Value} {Z : State} (hw : ∀ d ∈ tables_1, d.before a0 Z = true) : ∀ d ∈ StrChars.Road.words, d.before a0 Z = true := fun d hd => hw d ((by decide +kernel : ∀ d ∈ StrChars.Road.words, d ∈ tables_1) d hd)
abbrev y0 : MethodName := ⟨"java/lang/String", "<init>", "([C)V"⟩
abbrev y1 : MethodName := ⟨"java/lang/Record", "<init>", "()V"⟩
abbrev y2 : MethodName := ⟨"com/example/tacit/tacit/bench/Settings", "<init>", "(Ljava/lang/String;IJIIIIIJ)V"⟩
abbrev y3 : MethodName := ⟨"com/example/tacit/tacit/bench/Settings", "counted", "()J"⟩
abbrev y4 : MethodName := ⟨"com/example/tacit/tacit/bench/Settings", "openLoop", "()Z"⟩
theorem d7_0 : decode prog_31_method_1_code 0 = .ok (.aload_n 0, 1) := by decide +kernel
theorem d7_1 : decode prog_31_method_1_code 1 = .ok (.invokespecial 1, 3) := by decide +kernel
theorem d7_4 : decode prog_31_method_1_code 4 = .ok (.aload_n 0, 1) := by decide +kernel
theorem d7_5 : decode prog_31_method_1_code 5 = .ok (.aload_n 1, 1) := by decide +kernel
theorem d7_6 : decode prog_31_method_1_code 6 = .ok (.putfield 7, 3) := by decide +kernel
theorem d7_9 : decode prog_31_method_1_code 9 = .ok (.aload_n 0, 1) := by decide +kernel
theorem d7_10 : decode prog_31_method_1_code 10 = .ok (.iload_n 2, 1) := by decide +kernel
theorem d7_11 : decode prog_31_method_1_code 11 = .ok (.putfield 13, 3) := by decide +kernel
theorem d7_14 : decode prog_31_method_1_code 14 = .ok (.aload_n 0, 1) := by decide +kernel
theorem d7_15 : decode prog_31_method_1_code 15 = .ok (.lload_n 3, 1) := by decide +kernel
theorem d7_16 : decode prog_31_method_1_code 16 = .ok (.putfield 17, 3) := by decide +kernel
theorem d7_19 : decode prog_31_method_1_code 19 = .ok (.aload_n 0, 1) := by decide +kernel
theorem d7_20 : decode prog_31_method_1_code 20 = .ok (.iload 5, 2) := by decide +kernel
theorem d7_22 : decode prog_31_method_1_code 22 = .ok (.putfield 21, 3) := by decide +kernel
theorem d7_25 : decode prog_31_method_1_code 25 = .ok (.aload_n 0, 1) := by decide +kernel
theorem d7_26 : decode prog_31_method_1_code 26 = .ok (.iload 6, 2) := by decide +kernel
theorem d7_28 : decode prog_31_method_1_code 28 = .ok (.putfield 24, 3) := by decide +kernel
theorem d7_31 : decode prog_31_method_1_code 31 = .ok (.aload_n 0, 1) := by decide +kernel
theorem d7_32 : decode prog_31_method_1_code 32 = .ok (.iload 7, 2) := by decide +kernel
theorem d7_34 : decode prog_31_method_1_code 34 = .ok (.putfield 27, 3) := by decide +kernel
theorem d7_37 : decode prog_31_method_1_code 37 = .ok (.aload_n 0, 1) := by decide +kernel
theorem d7_38 : decode prog_31_method_1_code 38 = .ok (.iload 8, 2) := by decide +kernel
theorem d7_40 : decode prog_31_method_1_code 40 = .ok (.putfield 30, 3) := by decide +kernel
theorem d7_43 : decode prog_31_method_1_code 43 = .ok (.aload_n 0, 1) := by decide +kernel
theorem d7_44 : decode prog_31_method_1_code 44 = .ok (.iload 9, 2) := by decide +kernel
theorem d7_46 : decode prog_31_method_1_code 46 = .ok (.putfield 33, 3) := by decide +kernel
theorem d7_49 : decode prog_31_method_1_code 49 = .ok (.aload_n 0, 1) := by decide +kernel
theorem d7_50 : decode prog_31_method_1_code 50 = .ok (.lload 10, 2) := by decide +kernel
theorem d7_52 : decode prog_31_method_1_code 52 = .ok (.putfield 36, 3) := by decide +kernel
theorem d7_55 : decode prog_31_method_1_code 55 = .ok (.return_, 1) := by decide +kernel
theorem d8_0 : decode jdk_30_method_1_code 0 = .ok (.aload_n 0, 1) := by decide +kernel
theorem d8_1 : decode jdk_30_method_1_code 1 = .ok (.invokespecial 1, 3) := by decide +kernel
theorem d8_4 : decode jdk_30_method_1_code 4 = .ok (.return_, 1) := by decide +kernel
theorem d9_0 : decode prog_31_method_3_code 0 = .ok (.aload_n 0, 1) := by decide +kernel
theorem d9_1 : decode prog_31_method_3_code 1 = .ok (.getfield 30, 3) := by decide +kernel
theorem d9_4 : decode prog_31_method_3_code 4 = .ok (.ifCond .le 11, 3) := by decide +kernel
theorem d9_7 : decode prog_31_method_3_code 7 = .ok (.aload_n 0, 1) := by decide +kernel
theorem d9_8 : decode prog_31_method_3_code 8 = .ok (.getfield 30, 3) := by decide +kernel
theorem d9_11 : decode prog_31_method_3_code 11 = .ok (.i2l, 1) := by decide +kernel
theorem d9_12 : decode prog_31_method_3_code 12 = .ok (.goto 14, 3) := by decide +kernel
theorem d9_15 : decode prog_31_method_3_code 15 = .ok (.aload_n 0, 1) := by decide +kernel
theorem d9_16 : decode prog_31_method_3_code 16 = .ok (.getfield 24, 3) := by decide +kernel
theorem d9_19 : decode prog_31_method_3_code 19 = .ok (.i2l, 1) := by decide +kernel
theorem d9_20 : decode prog_31_method_3_code 20 = .ok (.aload_n 0, 1) := by decide +kernel
theorem d9_21 : decode prog_31_method_3_code 21 = .ok (.getfield 27, 3) := by decide +kernel
theorem d9_24 : decode prog_31_method_3_code 24 = .ok (.i2l, 1) := by decide +kernel
theorem d9_25 : decode prog_31_method_3_code 25 = .ok (.lmul, 1) := by decide +kernel
theorem d9_26 : decode prog_31_method_3_code 26 = .ok (.lreturn, 1) := by decide +kernel
theorem d10_0 : decode prog_31_method_2_code 0 = .ok (.aload_n 0, 1) := by decide +kernel
theorem d10_1 : decode prog_31_method_2_code 1 = .ok (.getfield 24, 3) := by decide +kernel
theorem d10_4 : decode prog_31_method_2_code 4 = .ok (.ifCond .le 7, 3) := by decide +kernel
theorem d10_7 : decode prog_31_method_2_code 7 = .ok (.iconst 1, 1) := by decide +kernel
theorem d10_8 : decode prog_31_method_2_code 8 = .ok (.goto 4, 3) := by decide +kernel
theorem d10_11 : decode prog_31_method_2_code 11 = .ok (.iconst 0, 1) := by decide +kernel
theorem d10_12 : decode prog_31_method_2_code 12 = .ok (.ireturn, 1) := by decide +kernel
theorem pd_0 : parseMethodDescriptor "([C)V" = some ⟨[(.array .char)], none⟩ := by decide +kernel
theorem pd_1 : parseMethodDescriptor "()V" = some ⟨[], none⟩ := by decide +kernel
theorem pd_2 : parseMethodDescriptor "(Ljava/lang/String;IJIIIIIJ)V" = some ⟨[(.object "java/lang/String"), .int, .long, .int, .int, .int, .int, .int, .long], none⟩ := by decide +kernel
theorem pd_3 : parseMethodDescriptor "()J" = some ⟨[], some .long⟩ := by decide +kernel
theorem pd_4 : parseMethodDescriptor "()Z" = some ⟨[], some .boolean⟩ := by decide +kernel
theorem pn_0 : plainName "java/lang/Record" = true := by first | (simp [plainName, overriddenIn]; done) | decide +kernel
theorem pn_1 : plainName "com/example/tacit/tacit/bench/Settings" = true := by first | (simp [plainName, overriddenIn]; done) | decide +kernel
theorem pn_2 : plainName "com/example/tacit/tacit/bench/SettingsCountedPinLaw" = true := by first | (simp [plainName, overriddenIn]; done) | decide +kernel
theorem ef_8_3 (m : MethodId) (x0 : Addr) : entryFrame m #[(.ref x0)] 1 = mkF m 0 #[vR x0] [] := by first | (simp [entryFrame, mkF, argsToLocals, Value.category]; done) | rfl
theorem ef_7_2 (m : MethodId) (x0 : Addr) (x1 : Addr) (x2 : Int32) (x3 : Int64) (x4 : Int32) (x5 : Int32) (x6 : Int32) (x7 : Int32) (x8 : Int32) (x9 : Int64) : entryFrame m #[(.ref x0), (.ref x1), (.int x2), (.long x3), (.int x4), (.int x5), (.int x6), (.int x7), (.int x8), (.long x9)] 12 = mkF m 0 #[vR x0, vR x1, vI x2, vJ x3, vS, vI x4, vI x5, vI x6, vI x7, vI x8, vJ x9, vS] [] := by first | (simp [entryFrame, mkF, argsToLocals, Value.category]; done) | rfl
theorem ef_9_4 (m : MethodId) (x0 : Addr) : entryFrame m #[(.ref x0)] 1 = mkF m 0 #[vR x0] [] := by first | (simp [entryFrame, mkF, argsToLocals, Value.category]; done) | rfl
theorem ef_10_5 (m : MethodId) (x0 : Addr) : entryFrame m #[(.ref x0)] 1 = mkF m 0 #[vR x0] [] := by first | (simp [entryFrame, mkF, argsToLocals, Value.category]; done) | rfl
theorem ef_law (m : MethodId) (x0 : Int32) (x1 : Int32) (x2 : Int32) (x3 : Int32) (x4 : Int64) (x5 : Int64) : entryFrame m #[(.int x0), (.int x1), (.int x2), (.int x3), (.long x4), (.long x5)] maxLocals = mkF m 0 #[vI x0, vI x1, vI x2, vI x3, vJ x4, vS, vJ x5, vS, vU, vU, vU, vU, vU, vU, vU, vU, vU, vU, vU, vU, vU, vU, vU, vU, vU, vU, vU] [] := by first | (simp [entryFrame, mkF, argsToLocals, Value.category, maxLocals]; done) | rfl
abbrev R8_3 : Room := { frames := 1, cells := 0, slots := 0, locals := 12 }
def Q8_3 (Z : State) (ra0 : Addr) (h0 : Heap) (n0 : Nat) (v : Option Value) (h : Heap) (L : List Loc) : Prop := (v = none ∧ Fr n0 L ∧ h = h0)
set_option maxRecDepth 65536 in
set_option maxHeartbeats 40000000 in
theorem rm8_3 (l : Launch) (Z : State) (a0 : Array Value) (hw : ∀ d ∈ tables_1, d.before a0 Z = true) (ra0 : Addr) (h0 : Heap) (n0 : Nat) (OLD : Old Z n0 h0) :
    own_CN l Z y1 jdk_30_method_1_code 1 none [] R8_3 #[(.ref ra0)] h0 (Q8_3 Z ra0 h0 n0) := by
  refine own_entryN (plainFor_of_name pn_0) fun p e s m below meth c s₁ hx hby hml hown hnm hret hlk hZ hh X0 e0 => ?_
  have N0 := Fr.nil n0
  rw [ef_8_3 m ra0]
  refine own_go (T' := s₁) (g' := (mkF m 1 #[vR ra0] [(.ref ra0)])) (fun _ k => XS.aloadN X0.here hx rfl (hb hby d8_0) rfl rfl k) ?_
  obtain ⟨T1, X1, e1, st1⟩ := initO X0 hx hZ hown (own_w hw 44) (own_w hw 18) (own_w hw 19) e0 (g := (mkF m 1 #[vR ra0] [(.ref ra0)])) rfl (by rw [hml]; rfl) rfl (hb hby d8_1) (by decide) (W := 0) (lb rfl) (by decide)
  refine own_go (T' := T1) (g' := (mkF m 4 #[vR ra0] [])) st1 ?_
  exact own_leaveN X1 hlk (v := none) (fun _ => rfl) (lb rfl) (lb rfl) (by rw [e1]; exact ⟨rfl, N0, rfl⟩) (fun fs hr => X1.returnOut hx hret (hb hby d8_4) hr)
abbrev R7_2 : Room := { frames := 2, cells := 0, slots := 0, locals := 24 }
def Q7_2 (Z : State) (ra0 : Addr) (ra1 : Addr) (pi2 : Int32) (pj3 : Int64) (pi4 : Int32) (pi5 : Int32) (pi6 : Int32) (pi7 : Int32) (pi8 : Int32) (pj9 : Int64) (u2 : Value) (u5 : Value) (u9 : Value) (u13 : Value) (u17 : Value) (u21 : Value) (u26 : Value) (u31 : Value) (u36 : Value) (h0 : Heap) (n0 : Nat) (v : Option Value) (h : Heap) (L : List Loc) : Prop := (v = none ∧ Fr n0 L ∧ Keep h0 h [ra0] ∧ Fld Z h ra0 "com/example/tacit/tacit/bench/Settings" "protocol" "Ljava/lang/String;" (.ref ra1) ∧ Fld Z h ra0 "com/example/tacit/tacit/bench/Settings" "replicas" "I" (.int pi2) ∧ Fld Z h ra0 "com/example/tacit/tacit/bench/Settings" "delayMs" "J" (.long pj3) ∧ Fld Z h ra0 "com/example/tacit/tacit/bench/Settings" "clients" "I" (.int pi4) ∧ Fld Z h ra0 "com/example/tacit/tacit/bench/Settings" "rate" "I" (.int pi5) ∧ Fld Z h ra0 "com/example/tacit/tacit/bench/Settings" "seconds" "I" (.int pi6) ∧ Fld Z h ra0 "com/example/tacit/tacit/bench/Settings" "calls" "I" (.int pi7) ∧ Fld Z h ra0 "com/example/tacit/tacit/bench/Settings" "warmupSeconds" "I" (.int pi8) ∧ Fld Z h ra0 "com/example/tacit/tacit/bench/Settings" "seed" "J" (.long pj9))
set_option maxRecDepth 65536 in
set_option maxHeartbeats 40000000 in
theorem rm7_2 (l : Launch) (Z : State) (a0 : Array Value) (hw : ∀ d ∈ tables_1, d.before a0 Z = true) (ra0 : Addr) (ra1 : Addr) (pi2 : Int32) (pj3 : Int64) (pi4 : Int32) (pi5 : Int32) (pi6 : Int32) (pi7 : Int32) (pi8 : Int32) (pj9 : Int64) (u2 : Value) (u5 : Value) (u9 : Value) (u13 : Value) (u17 : Value) (u21 : Value) (u26 : Value) (u31 : Value) (u36 : Value) (h0 : Heap) (n0 : Nat) (OLD : Old Z n0 h0) (E_ra0 : Exa Z h0 ra0 "com/example/tacit/tacit/bench/Settings") (F_protocol_ra0 : Fld Z h0 ra0 "com/example/tacit/tacit/bench/Settings" "protocol" "Ljava/lang/String;" u2) (ge_ra0 : n0 ≤ ra0) (F_replicas_ra0 : Fld Z h0 ra0 "com/example/tacit/tacit/bench/Settings" "replicas" "I" u5) (F_delayMs_ra0 : Fld Z h0 ra0 "com/example/tacit/tacit/bench/Settings" "delayMs" "J" u9) (F_clients_ra0 : Fld Z h0 ra0 "com/example/tacit/tacit/bench/Settings" "clients" "I" u13) (F_rate_ra0 : Fld Z h0 ra0 "com/example/tacit/tacit/bench/Settings" "rate" "I" u17) (F_seconds_ra0 : Fld Z h0 ra0 "com/example/tacit/tacit/bench/Settings" "seconds" "I" u21) (F_calls_ra0 : Fld Z h0 ra0 "com/example/tacit/tacit/bench/Settings" "calls" "I" u26) (F_warmupSeconds_ra0 : Fld Z h0 ra0 "com/example/tacit/tacit/bench/Settings" "warmupSeconds" "I" u31) (F_seed_ra0 : Fld Z h0 ra0 "com/example/tacit/tacit/bench/Settings" "seed" "J" u36) :
    own_CN l Z y2 prog_31_method_1_code 12 none [] R7_2 #[(.ref ra0), (.ref ra1), (.int pi2), (.long pj3), (.int pi4), (.int pi5), (.int pi6), (.int pi7), (.int pi8), (.long pj9)] h0 (Q7_2 Z ra0 ra1 pi2 pj3 pi4 pi5 pi6 pi7 pi8 pj9 u2 u5 u9 u13 u17 u21 u26 u31 u36 h0 n0) := by
  refine own_entryN (plainFor_of_name pn_1) fun p e s m below meth c s₁ hx hby hml hown hnm hret hlk hZ hh X0 e0 => ?_
  have N0 := Fr.nil n0
  rw [ef_7_2 m ra0 ra1 pi2 pj3 pi4 pi5 pi6 pi7 pi8 pj9]
  refine own_go (T' := s₁) (g' := (mkF m 1 #[vR ra0, vR ra1, vI pi2, vJ pj3, vS, vI pi4, vI pi5, vI pi6, vI pi7, vI pi8, vJ pj9, vS] [(.ref ra0)])) (fun _ k => XS.aloadN X0.here hx rfl (hb hby d7_0) rfl rfl k) ?_
  obtain ⟨_, _, ⟨T1, L1, k1, n1⟩, -, X1, ⟨Lc1, hQ1, l1, y1, z1⟩, st1⟩ := X0.specialBack hx (y := y1) rfl hown (mvT hZ (own_w hw 39)) (mvT hZ (own_w hw 40)) (mvT hZ (own_w hw 43)) (by decide) (backOf (W := 0) (rm8_3 l Z a0 hw ra0 h0 n0 OLD ) hZ (own_w hw 43) (own_w hw 42) (lb rfl) (lb rfl)) (g := (mkF m 1 #[vR ra0, vR ra1, vI pi2, vJ pj3, vS, vI pi4, vI pi5, vI pi6, vI pi7, vI pi8, vJ pj9, vS] [(.ref ra0)])) rfl (by rw [hml]; rfl) (Steps.refl _) (a := ra0) (argsL := []) (rest := []) (lenOf pd_1 rfl) rfl (lb rfl) (hb hby d7_1) (fun _ _ => ⟨rfl, e0, (lb rfl), (lb rfl)⟩)
  dsimp only [Pt.U, Pt.locs, Pt.cells, Pt.slots] at X1 l1 y1 z1 st1 hQ1
  subst l1 y1 z1
  obtain ⟨rfl, Nq1, eq1⟩ := hQ1
  have N1 := Fr.app N0 Nq1
  refine own_to (T' := T1) (g' := (mkF m 4 #[vR ra0, vR ra1, vI pi2, vJ pj3, vS, vI pi4, vI pi5, vI pi6, vI pi7, vI pi8, vJ pj9, vS] [])) st1 ?_
  refine own_go (T' := T1) (g' := (mkF m 6 #[vR ra0, vR ra1, vI pi2, vJ pj3, vS, vI pi4, vI pi5, vI pi6, vI pi7, vI pi8, vJ pj9, vS] [(.ref ra1), (.ref ra0)])) (fun _ k => XS.aloadN X1.here hx rfl (hb hby d7_4) rfl rfl (XS.aloadN X1.here hx rfl (hb hby d7_5) rfl rfl k)) ?_
  obtain ⟨T3, h3, X3, e3, W3, st3⟩ := putF X1 hx hZ hown (host := "") (Or.inl (own_w hw 45)) Via.refl eq1 F_protocol_ra0 E_ra0 (Or.inr ⟨(own_w hw 46), rfl, hnm⟩) (own_w hw 5) (ty := (.object "java/lang/String")) (by decide) rfl rfl (g := (mkF m 6 #[vR ra0, vR ra1, vI pi2, vJ pj3, vS, vI pi4, vI pi5, vI pi6, vI pi7, vI pi8, vJ pj9, vS] [(.ref ra1), (.ref ra0)])) rfl rfl (hb hby d7_6)
  have Fw3 := F_protocol_ra0.same W3
  have N3 := Fr.snoc X3 N1 ge_ra0
  refine own_go (T' := T3) (g' := (mkF m 9 #[vR ra0, vR ra1, vI pi2, vJ pj3, vS, vI pi4, vI pi5, vI pi6, vI pi7, vI pi8, vJ pj9, vS] [])) st3 ?_
  refine own_go (T' := T3) (g' := (mkF m 11 #[vR ra0, vR ra1, vI pi2, vJ pj3, vS, vI pi4, vI pi5, vI pi6, vI pi7, vI pi8, vJ pj9, vS] [(.int pi2), (.ref ra0)])) (fun _ k => XS.aloadN X3.here hx rfl (hb hby d7_9) rfl rfl (XS.iloadN X3.here hx rfl (hb hby d7_10) rfl k)) ?_
  have F4 := (E_ra0.wr W3)
  have F6 := (F_replicas_ra0.other W3 (Or.inr (slot_ne (Or.inr (own_w hw 48)) (Or.inr (own_w hw 46)) (by decide) (t := .int) (t' := (.object "java/lang/String")) (by decide) (by decide))))
  obtain ⟨T7, h7, X7, e7, W7, st7⟩ := putF X3 hx hZ hown (host := "") (Or.inl (own_w hw 47)) Via.refl e3 F6 F4 (Or.inr ⟨(own_w hw 48), rfl, hnm⟩) (own_w hw 5) (ty := .int) (by decide) rfl rfl (g := (mkF m 11 #[vR ra0, vR ra1, vI pi2, vJ pj3, vS, vI pi4, vI pi5, vI pi6, vI pi7, vI pi8, vJ pj9, vS] [(.int pi2), (.ref ra0)])) rfl rfl (hb hby d7_11)
  have Fw7 := F6.same W7
  have N7 := Fr.snoc X7 N3 ge_ra0
  refine own_go (T' := T7) (g' := (mkF m 14 #[vR ra0, vR ra1, vI pi2, vJ pj3, vS, vI pi4, vI pi5, vI pi6, vI pi7, vI pi8, vJ pj9, vS] [])) st7 ?_
  refine own_go (T' := T7) (g' := (mkF m 16 #[vR ra0, vR ra1, vI pi2, vJ pj3, vS, vI pi4, vI pi5, vI pi6, vI pi7, vI pi8, vJ pj9, vS] [(.long pj3), (.ref ra0)])) (fun _ k => XS.aloadN X7.here hx rfl (hb hby d7_14) rfl rfl (XS.lloadN X7.here hx rfl (hb hby d7_15) rfl k)) ?_
  have F8 := (F4.wr W7)
  have F10 := ((F_delayMs_ra0.other W3 (Or.inr (slot_ne (Or.inr (own_w hw 50)) (Or.inr (own_w hw 46)) (by decide) (t := .long) (t' := (.object "java/lang/String")) (by decide) (by decide)))).other W7 (Or.inr (slot_ne (Or.inr (own_w hw 50)) (Or.inr (own_w hw 48)) (by decide) (t := .long) (t' := .int) (by decide) (by decide))))
  obtain ⟨T11, h11, X11, e11, W11, st11⟩ := putF X7 hx hZ hown (host := "") (Or.inl (own_w hw 49)) Via.refl e7 F10 F8 (Or.inr ⟨(own_w hw 50), rfl, hnm⟩) (own_w hw 5) (ty := .long) (by decide) rfl rfl (g := (mkF m 16 #[vR ra0, vR ra1, vI pi2, vJ pj3, vS, vI pi4, vI pi5, vI pi6, vI pi7, vI pi8, vJ pj9, vS] [(.long pj3), (.ref ra0)])) rfl rfl (hb hby d7_16)
  have Fw11 := F10.same W11
  have N11 := Fr.snoc X11 N7 ge_ra0
  refine own_go (T' := T11) (g' := (mkF m 19 #[vR ra0, vR ra1, vI pi2, vJ pj3, vS, vI pi4, vI pi5, vI pi6, vI pi7, vI pi8, vJ pj9, vS] [])) st11 ?_
  refine own_go (T' := T11) (g' := (mkF m 22 #[vR ra0, vR ra1, vI pi2, vJ pj3, vS, vI pi4, vI pi5, vI pi6, vI pi7, vI pi8, vJ pj9, vS] [(.int pi4), (.ref ra0)])) (fun _ k => XS.aloadN X11.here hx rfl (hb hby d7_19) rfl rfl (XS.iload X11.here hx rfl (hb hby d7_20) rfl k)) ?_
  have F12 := (F8.wr W11)
  have F14 := (((F_clients_ra0.other W3 (Or.inr (slot_ne (Or.inr (own_w hw 52)) (Or.inr (own_w hw 46)) (by decide) (t := .int) (t' := (.object "java/lang/String")) (by decide) (by decide)))).other W7 (Or.inr (slot_ne (Or.inr (own_w hw 52)) (Or.inr (own_w hw 48)) (by decide) (t := .int) (t' := .int) (by decide) (by decide)))).other W11 (Or.inr (slot_ne (Or.inr (own_w hw 52)) (Or.inr (own_w hw 50)) (by decide) (t := .int) (t' := .long) (by decide) (by decide))))
  obtain ⟨T15, h15, X15, e15, W15, st15⟩ := putF X11 hx hZ hown (host := "") (Or.inl (own_w hw 51)) Via.refl e11 F14 F12 (Or.inr ⟨(own_w hw 52), rfl, hnm⟩) (own_w hw 5) (ty := .int) (by decide) rfl rfl (g := (mkF m 22 #[vR ra0, vR ra1, vI pi2, vJ pj3, vS, vI pi4, vI pi5, vI pi6, vI pi7, vI pi8, vJ pj9, vS] [(.int pi4), (.ref ra0)])) rfl rfl (hb hby d7_22)
  have Fw15 := F14.same W15
  have N15 := Fr.snoc X15 N11 ge_ra0
  refine own_go (T' := T15) (g' := (mkF m 25 #[vR ra0, vR ra1, vI pi2, vJ pj3, vS, vI pi4, vI pi5, vI pi6, vI pi7, vI pi8, vJ pj9, vS] [])) st15 ?_
  refine own_go (T' := T15) (g' := (mkF m 28 #[vR ra0, vR ra1, vI pi2, vJ pj3, vS, vI pi4, vI pi5, vI pi6, vI pi7, vI pi8, vJ pj9, vS] [(.int pi5), (.ref ra0)])) (fun _ k => XS.aloadN X15.here hx rfl (hb hby d7_25) rfl rfl (XS.iload X15.here hx rfl (hb hby d7_26) rfl k)) ?_
  have F16 := (F12.wr W15)
  have F18 := ((((F_rate_ra0.other W3 (Or.inr (slot_ne (Or.inr (own_w hw 54)) (Or.inr (own_w hw 46)) (by decide) (t := .int) (t' := (.object "java/lang/String")) (by decide) (by decide)))).other W7 (Or.inr (slot_ne (Or.inr (own_w hw 54)) (Or.inr (own_w hw 48)) (by decide) (t := .int) (t' := .int) (by decide) (by decide)))).other W11 (Or.inr (slot_ne (Or.inr (own_w hw 54)) (Or.inr (own_w hw 50)) (by decide) (t := .int) (t' := .long) (by decide) (by decide)))).other W15 (Or.inr (slot_ne (Or.inr (own_w hw 54)) (Or.inr (own_w hw 52)) (by decide) (t := .int) (t' := .int) (by decide) (by decide))))
  obtain ⟨T19, h19, X19, e19, W19, st19⟩ := putF X15 hx hZ hown (host := "") (Or.inl (own_w hw 53)) Via.refl e15 F18 F16 (Or.inr ⟨(own_w hw 54), rfl, hnm⟩) (own_w hw 5) (ty := .int) (by decide) rfl rfl (g := (mkF m 28 #[vR ra0, vR ra1, vI pi2, vJ pj3, vS, vI pi4, vI pi5, vI pi6, vI pi7, vI pi8, vJ pj9, vS] [(.int pi5), (.ref ra0)])) rfl rfl (hb hby d7_28)
  have Fw19 := F18.same W19
  have N19 := Fr.snoc X19 N15 ge_ra0
  refine own_go (T' := T19) (g' := (mkF m 31 #[vR ra0, vR ra1, vI pi2, vJ pj3, vS, vI pi4, vI pi5, vI pi6, vI pi7, vI pi8, vJ pj9, vS] [])) st19 ?_
  refine own_go (T' := T19) (g' := (mkF m 34 #[vR ra0, vR ra1, vI pi2, vJ pj3, vS, vI pi4, vI pi5, vI pi6, vI pi7, vI pi8, vJ pj9, vS] [(.int pi6), (.ref ra0)])) (fun _ k => XS.aloadN X19.here hx rfl (hb hby d7_31) rfl rfl (XS.iload X19.here hx rfl (hb hby d7_32) rfl k)) ?_
  have F20 := (F16.wr W19)
  have F22 := ((((F_seconds_ra0.other W3 (Or.inr (slot_ne (Or.inr (own_w hw 56)) (Or.inr (own_w hw 46)) (by decide) (t := .int) (t' := (.object "java/lang/String")) (by decide) (by decide)))).other W7 (Or.inr (slot_ne (Or.inr (own_w hw 56)) (Or.inr (own_w hw 48)) (by decide) (t := .int) (t' := .int) (by decide) (by decide)))).other W11 (Or.inr (slot_ne (Or.inr (own_w hw 56)) (Or.inr (own_w hw 50)) (by decide) (t := .int) (t' := .long) (by decide) (by decide)))).other W15 (Or.inr (slot_ne (Or.inr (own_w hw 56)) (Or.inr (own_w hw 52)) (by decide) (t := .int) (t' := .int) (by decide) (by decide))))
  have F23 := (F22.other W19 (Or.inr (slot_ne (Or.inr (own_w hw 56)) (Or.inr (own_w hw 54)) (by decide) (t := .int) (t' := .int) (by decide) (by decide))))
  obtain ⟨T24, h24, X24, e24, W24, st24⟩ := putF X19 hx hZ hown (host := "") (Or.inl (own_w hw 55)) Via.refl e19 F23 F20 (Or.inr ⟨(own_w hw 56), rfl, hnm⟩) (own_w hw 5) (ty := .int) (by decide) rfl rfl (g := (mkF m 34 #[vR ra0, vR ra1, vI pi2, vJ pj3, vS, vI pi4, vI pi5, vI pi6, vI pi7, vI pi8, vJ pj9, vS] [(.int pi6), (.ref ra0)])) rfl rfl (hb hby d7_34)
  have Fw24 := F23.same W24
  have N24 := Fr.snoc X24 N19 ge_ra0
  refine own_go (T' := T24) (g' := (mkF m 37 #[vR ra0, vR ra1, vI pi2, vJ pj3, vS, vI pi4, vI pi5, vI pi6, vI pi7, vI pi8, vJ pj9, vS] [])) st24 ?_
  refine own_go (T' := T24) (g' := (mkF m 40 #[vR ra0, vR ra1, vI pi2, vJ pj3, vS, vI pi4, vI pi5, vI pi6, vI pi7, vI pi8, vJ pj9, vS] [(.int pi7), (.ref ra0)])) (fun _ k => XS.aloadN X24.here hx rfl (hb hby d7_37) rfl rfl (XS.iload X24.here hx rfl (hb hby d7_38) rfl k)) ?_
  have F25 := (F20.wr W24)
  have F27 := ((((F_calls_ra0.other W3 (Or.inr (slot_ne (Or.inr (own_w hw 58)) (Or.inr (own_w hw 46)) (by decide) (t := .int) (t' := (.object "java/lang/String")) (by decide) (by decide)))).other W7 (Or.inr (slot_ne (Or.inr (own_w hw 58)) (Or.inr (own_w hw 48)) (by decide) (t := .int) (t' := .int) (by decide) (by decide)))).other W11 (Or.inr (slot_ne (Or.inr (own_w hw 58)) (Or.inr (own_w hw 50)) (by decide) (t := .int) (t' := .long) (by decide) (by decide)))).other W15 (Or.inr (slot_ne (Or.inr (own_w hw 58)) (Or.inr (own_w hw 52)) (by decide) (t := .int) (t' := .int) (by decide) (by decide))))
  have F28 := ((F27.other W19 (Or.inr (slot_ne (Or.inr (own_w hw 58)) (Or.inr (own_w hw 54)) (by decide) (t := .int) (t' := .int) (by decide) (by decide)))).other W24 (Or.inr (slot_ne (Or.inr (own_w hw 58)) (Or.inr (own_w hw 56)) (by decide) (t := .int) (t' := .int) (by decide) (by decide))))
  obtain ⟨T29, h29, X29, e29, W29, st29⟩ := putF X24 hx hZ hown (host := "") (Or.inl (own_w hw 57)) Via.refl e24 F28 F25 (Or.inr ⟨(own_w hw 58), rfl, hnm⟩) (own_w hw 5) (ty := .int) (by decide) rfl rfl (g := (mkF m 40 #[vR ra0, vR ra1, vI pi2, vJ pj3, vS, vI pi4, vI pi5, vI pi6, vI pi7, vI pi8, vJ pj9, vS] [(.int pi7), (.ref ra0)])) rfl rfl (hb hby d7_40)
  have Fw29 := F28.same W29
  have N29 := Fr.snoc X29 N24 ge_ra0
  refine own_go (T' := T29) (g' := (mkF m 43 #[vR ra0, vR ra1, vI pi2, vJ pj3, vS, vI pi4, vI pi5, vI pi6, vI pi7, vI pi8, vJ pj9, vS] [])) st29 ?_
  refine own_go (T' := T29) (g' := (mkF m 46 #[vR ra0, vR ra1, vI pi2, vJ pj3, vS, vI pi4, vI pi5, vI pi6, vI pi7, vI pi8, vJ pj9, vS] [(.int pi8), (.ref ra0)])) (fun _ k => XS.aloadN X29.here hx rfl (hb hby d7_43) rfl rfl (XS.iload X29.here hx rfl (hb hby d7_44) rfl k)) ?_
  have F30 := (F25.wr W29)
  have F32 := ((((F_warmupSeconds_ra0.other W3 (Or.inr (slot_ne (Or.inr (own_w hw 60)) (Or.inr (own_w hw 46)) (by decide) (t := .int) (t' := (.object "java/lang/String")) (by decide) (by decide)))).other W7 (Or.inr (slot_ne (Or.inr (own_w hw 60)) (Or.inr (own_w hw 48)) (by decide) (t := .int) (t' := .int) (by decide) (by decide)))).other W11 (Or.inr (slot_ne (Or.inr (own_w hw 60)) (Or.inr (own_w hw 50)) (by decide) (t := .int) (t' := .long) (by decide) (by decide)))).other W15 (Or.inr (slot_ne (Or.inr (own_w hw 60)) (Or.inr (own_w hw 52)) (by decide) (t := .int) (t' := .int) (by decide) (by decide))))
  have F33 := (((F32.other W19 (Or.inr (slot_ne (Or.inr (own_w hw 60)) (Or.inr (own_w hw 54)) (by decide) (t := .int) (t' := .int) (by decide) (by decide)))).other W24 (Or.inr (slot_ne (Or.inr (own_w hw 60)) (Or.inr (own_w hw 56)) (by decide) (t := .int) (t' := .int) (by decide) (by decide)))).other W29 (Or.inr (slot_ne (Or.inr (own_w hw 60)) (Or.inr (own_w hw 58)) (by decide) (t := .int) (t' := .int) (by decide) (by decide))))
  obtain ⟨T34, h34, X34, e34, W34, st34⟩ := putF X29 hx hZ hown (host := "") (Or.inl (own_w hw 59)) Via.refl e29 F33 F30 (Or.inr ⟨(own_w hw 60), rfl, hnm⟩) (own_w hw 5) (ty := .int) (by decide) rfl rfl (g := (mkF m 46 #[vR ra0, vR ra1, vI pi2, vJ pj3, vS, vI pi4, vI pi5, vI pi6, vI pi7, vI pi8, vJ pj9, vS] [(.int pi8), (.ref ra0)])) rfl rfl (hb hby d7_46)
  have Fw34 := F33.same W34
  have N34 := Fr.snoc X34 N29 ge_ra0
  refine own_go (T' := T34) (g' := (mkF m 49 #[vR ra0, vR ra1, vI pi2, vJ pj3, vS, vI pi4, vI pi5, vI pi6, vI pi7, vI pi8, vJ pj9, vS] [])) st34 ?_
  refine own_go (T' := T34) (g' := (mkF m 52 #[vR ra0, vR ra1, vI pi2, vJ pj3, vS, vI pi4, vI pi5, vI pi6, vI pi7, vI pi8, vJ pj9, vS] [(.long pj9), (.ref ra0)])) (fun _ k => XS.aloadN X34.here hx rfl (hb hby d7_49) rfl rfl (XS.lload X34.here hx rfl (hb hby d7_50) rfl k)) ?_
  have F35 := (F30.wr W34)
  have F37 := ((((F_seed_ra0.other W3 (Or.inr (slot_ne (Or.inr (own_w hw 62)) (Or.inr (own_w hw 46)) (by decide) (t := .long) (t' := (.object "java/lang/String")) (by decide) (by decide)))).other W7 (Or.inr (slot_ne (Or.inr (own_w hw 62)) (Or.inr (own_w hw 48)) (by decide) (t := .long) (t' := .int) (by decide) (by decide)))).other W11 (Or.inr (slot_ne (Or.inr (own_w hw 62)) (Or.inr (own_w hw 50)) (by decide) (t := .long) (t' := .long) (by decide) (by decide)))).other W15 (Or.inr (slot_ne (Or.inr (own_w hw 62)) (Or.inr (own_w hw 52)) (by decide) (t := .long) (t' := .int) (by decide) (by decide))))
  have F38 := ((((F37.other W19 (Or.inr (slot_ne (Or.inr (own_w hw 62)) (Or.inr (own_w hw 54)) (by decide) (t := .long) (t' := .int) (by decide) (by decide)))).other W24 (Or.inr (slot_ne (Or.inr (own_w hw 62)) (Or.inr (own_w hw 56)) (by decide) (t := .long) (t' := .int) (by decide) (by decide)))).other W29 (Or.inr (slot_ne (Or.inr (own_w hw 62)) (Or.inr (own_w hw 58)) (by decide) (t := .long) (t' := .int) (by decide) (by decide)))).other W34 (Or.inr (slot_ne (Or.inr (own_w hw 62)) (Or.inr (own_w hw 60)) (by decide) (t := .long) (t' := .int) (by decide) (by decide))))
  obtain ⟨T39, h39, X39, e39, W39, st39⟩ := putF X34 hx hZ hown (host := "") (Or.inl (own_w hw 61)) Via.refl e34 F38 F35 (Or.inr ⟨(own_w hw 62), rfl, hnm⟩) (own_w hw 5) (ty := .long) (by decide) rfl rfl (g := (mkF m 52 #[vR ra0, vR ra1, vI pi2, vJ pj3, vS, vI pi4, vI pi5, vI pi6, vI pi7, vI pi8, vJ pj9, vS] [(.long pj9), (.ref ra0)])) rfl rfl (hb hby d7_52)
  have Fw39 := F38.same W39
  have N39 := Fr.snoc X39 N34 ge_ra0
  refine own_go (T' := T39) (g' := (mkF m 55 #[vR ra0, vR ra1, vI pi2, vJ pj3, vS, vI pi4, vI pi5, vI pi6, vI pi7, vI pi8, vJ pj9, vS] [])) st39 ?_
  have F40 := ((((Fw3.other W7 (Or.inr (slot_ne (Or.inr (own_w hw 46)) (Or.inr (own_w hw 48)) (by decide) (t := (.object "java/lang/String")) (t' := .int) (by decide) (by decide)))).other W11 (Or.inr (slot_ne (Or.inr (own_w hw 46)) (Or.inr (own_w hw 50)) (by decide) (t := (.object "java/lang/String")) (t' := .long) (by decide) (by decide)))).other W15 (Or.inr (slot_ne (Or.inr (own_w hw 46)) (Or.inr (own_w hw 52)) (by decide) (t := (.object "java/lang/String")) (t' := .int) (by decide) (by decide)))).other W19 (Or.inr (slot_ne (Or.inr (own_w hw 46)) (Or.inr (own_w hw 54)) (by decide) (t := (.object "java/lang/String")) (t' := .int) (by decide) (by decide))))
  have F41 := ((((F40.other W24 (Or.inr (slot_ne (Or.inr (own_w hw 46)) (Or.inr (own_w hw 56)) (by decide) (t := (.object "java/lang/String")) (t' := .int) (by decide) (by decide)))).other W29 (Or.inr (slot_ne (Or.inr (own_w hw 46)) (Or.inr (own_w hw 58)) (by decide) (t := (.object "java/lang/String")) (t' := .int) (by decide) (by decide)))).other W34 (Or.inr (slot_ne (Or.inr (own_w hw 46)) (Or.inr (own_w hw 60)) (by decide) (t := (.object "java/lang/String")) (t' := .int) (by decide) (by decide)))).other W39 (Or.inr (slot_ne (Or.inr (own_w hw 46)) (Or.inr (own_w hw 62)) (by decide) (t := (.object "java/lang/String")) (t' := .long) (by decide) (by decide))))
  have F42 := ((((Fw7.other W11 (Or.inr (slot_ne (Or.inr (own_w hw 48)) (Or.inr (own_w hw 50)) (by decide) (t := .int) (t' := .long) (by decide) (by decide)))).other W15 (Or.inr (slot_ne (Or.inr (own_w hw 48)) (Or.inr (own_w hw 52)) (by decide) (t := .int) (t' := .int) (by decide) (by decide)))).other W19 (Or.inr (slot_ne (Or.inr (own_w hw 48)) (Or.inr (own_w hw 54)) (by decide) (t := .int) (t' := .int) (by decide) (by decide)))).other W24 (Or.inr (slot_ne (Or.inr (own_w hw 48)) (Or.inr (own_w hw 56)) (by decide) (t := .int) (t' := .int) (by decide) (by decide))))
  have F43 := (((F42.other W29 (Or.inr (slot_ne (Or.inr (own_w hw 48)) (Or.inr (own_w hw 58)) (by decide) (t := .int) (t' := .int) (by decide) (by decide)))).other W34 (Or.inr (slot_ne (Or.inr (own_w hw 48)) (Or.inr (own_w hw 60)) (by decide) (t := .int) (t' := .int) (by decide) (by decide)))).other W39 (Or.inr (slot_ne (Or.inr (own_w hw 48)) (Or.inr (own_w hw 62)) (by decide) (t := .int) (t' := .long) (by decide) (by decide))))
  have F44 := ((((Fw11.other W15 (Or.inr (slot_ne (Or.inr (own_w hw 50)) (Or.inr (own_w hw 52)) (by decide) (t := .long) (t' := .int) (by decide) (by decide)))).other W19 (Or.inr (slot_ne (Or.inr (own_w hw 50)) (Or.inr (own_w hw 54)) (by decide) (t := .long) (t' := .int) (by decide) (by decide)))).other W24 (Or.inr (slot_ne (Or.inr (own_w hw 50)) (Or.inr (own_w hw 56)) (by decide) (t := .long) (t' := .int) (by decide) (by decide)))).other W29 (Or.inr (slot_ne (Or.inr (own_w hw 50)) (Or.inr (own_w hw 58)) (by decide) (t := .long) (t' := .int) (by decide) (by decide))))
  have F45 := ((F44.other W34 (Or.inr (slot_ne (Or.inr (own_w hw 50)) (Or.inr (own_w hw 60)) (by decide) (t := .long) (t' := .int) (by decide) (by decide)))).other W39 (Or.inr (slot_ne (Or.inr (own_w hw 50)) (Or.inr (own_w hw 62)) (by decide) (t := .long) (t' := .long) (by decide) (by decide))))
  have F46 := ((((Fw15.other W19 (Or.inr (slot_ne (Or.inr (own_w hw 52)) (Or.inr (own_w hw 54)) (by decide) (t := .int) (t' := .int) (by decide) (by decide)))).other W24 (Or.inr (slot_ne (Or.inr (own_w hw 52)) (Or.inr (own_w hw 56)) (by decide) (t := .int) (t' := .int) (by decide) (by decide)))).other W29 (Or.inr (slot_ne (Or.inr (own_w hw 52)) (Or.inr (own_w hw 58)) (by decide) (t := .int) (t' := .int) (by decide) (by decide)))).other W34 (Or.inr (slot_ne (Or.inr (own_w hw 52)) (Or.inr (own_w hw 60)) (by decide) (t := .int) (t' := .int) (by decide) (by decide))))
  have F47 := (F46.other W39 (Or.inr (slot_ne (Or.inr (own_w hw 52)) (Or.inr (own_w hw 62)) (by decide) (t := .int) (t' := .long) (by decide) (by decide))))
  have F48 := ((((Fw19.other W24 (Or.inr (slot_ne (Or.inr (own_w hw 54)) (Or.inr (own_w hw 56)) (by decide) (t := .int) (t' := .int) (by decide) (by decide)))).other W29 (Or.inr (slot_ne (Or.inr (own_w hw 54)) (Or.inr (own_w hw 58)) (by decide) (t := .int) (t' := .int) (by decide) (by decide)))).other W34 (Or.inr (slot_ne (Or.inr (own_w hw 54)) (Or.inr (own_w hw 60)) (by decide) (t := .int) (t' := .int) (by decide) (by decide)))).other W39 (Or.inr (slot_ne (Or.inr (own_w hw 54)) (Or.inr (own_w hw 62)) (by decide) (t := .int) (t' := .long) (by decide) (by decide))))
  have F49 := (((Fw24.other W29 (Or.inr (slot_ne (Or.inr (own_w hw 56)) (Or.inr (own_w hw 58)) (by decide) (t := .int) (t' := .int) (by decide) (by decide)))).other W34 (Or.inr (slot_ne (Or.inr (own_w hw 56)) (Or.inr (own_w hw 60)) (by decide) (t := .int) (t' := .int) (by decide) (by decide)))).other W39 (Or.inr (slot_ne (Or.inr (own_w hw 56)) (Or.inr (own_w hw 62)) (by decide) (t := .int) (t' := .long) (by decide) (by decide))))
  have F50 := ((Fw29.other W34 (Or.inr (slot_ne (Or.inr (own_w hw 58)) (Or.inr (own_w hw 60)) (by decide) (t := .int) (t' := .int) (by decide) (by decide)))).other W39 (Or.inr (slot_ne (Or.inr (own_w hw 58)) (Or.inr (own_w hw 62)) (by decide) (t := .int) (t' := .long) (by decide) (by decide))))
  have F51 := (Fw34.other W39 (Or.inr (slot_ne (Or.inr (own_w hw 60)) (Or.inr (own_w hw 62)) (by decide) (t := .int) (t' := .long) (by decide) (by decide))))
  have K52 := (((((Keep.refl h0 [ra0]).wr W3 (Or.inl (List.mem_of_getElem? (i := 0) rfl))).wr W7 (Or.inl (List.mem_of_getElem? (i := 0) rfl))).wr W11 (Or.inl (List.mem_of_getElem? (i := 0) rfl))).wr W15 (Or.inl (List.mem_of_getElem? (i := 0) rfl)))
  have K53 := ((((K52.wr W19 (Or.inl (List.mem_of_getElem? (i := 0) rfl))).wr W24 (Or.inl (List.mem_of_getElem? (i := 0) rfl))).wr W29 (Or.inl (List.mem_of_getElem? (i := 0) rfl))).wr W34 (Or.inl (List.mem_of_getElem? (i := 0) rfl)))
  have KEEP := (K53.wr W39 (Or.inl (List.mem_of_getElem? (i := 0) rfl)))
  exact own_leaveN X39 hlk (v := none) (fun _ => rfl) (lb rfl) (lb rfl) (by rw [e39]; exact ⟨rfl, N39, KEEP, F41, F43, F45, F47, F48, F49, F50, F51, Fw39⟩) (fun fs hr => X39.returnOut hx hret (hb hby d7_55) hr)
abbrev R9_4 : Room := { frames := 0, cells := 0, slots := 0, locals := 0 }
def Q9_4 (Z : State) (ra0 : Addr) (w1 : Int32) (w5 : Int32) (w7 : Int32) (h0 : Heap) (n0 : Nat) (v : Option Value) (h : Heap) (L : List Loc) : Prop := ((0 : Int32) < w1 ∧ v = some (.long (w1.toInt64)) ∧ Fr n0 L ∧ h = h0) ∨ ((¬ ((0 : Int32) < w1)) ∧ v = some (.long ((w5.toInt64) * (w7.toInt64))) ∧ Fr n0 L ∧ h = h0)
set_option maxRecDepth 65536 in
set_option maxHeartbeats 40000000 in
theorem rm9_4 (l : Launch) (Z : State) (a0 : Array Value) (hw : ∀ d ∈ tables_1, d.before a0 Z = true) (ra0 : Addr) (w1 : Int32) (w5 : Int32) (w7 : Int32) (h0 : Heap) (n0 : Nat) (OLD : Old Z n0 h0) (F_calls_ra0 : Fld Z h0 ra0 "com/example/tacit/tacit/bench/Settings" "calls" "I" (.int w1)) (F_rate_ra0 : Fld Z h0 ra0 "com/example/tacit/tacit/bench/Settings" "rate" "I" (.int w5)) (F_seconds_ra0 : Fld Z h0 ra0 "com/example/tacit/tacit/bench/Settings" "seconds" "I" (.int w7)) :
    own_CN l Z y3 prog_31_method_3_code 1 (some .long) [] R9_4 #[(.ref ra0)] h0 (Q9_4 Z ra0 w1 w5 w7 h0 n0) := by
  refine own_entryN (plainFor_of_name pn_1) fun p e s m below meth c s₁ hx hby hml hown hnm hret hlk hZ hh X0 e0 => ?_
  have N0 := Fr.nil n0
  rw [ef_9_4 m ra0]
  refine own_go (T' := s₁) (g' := (mkF m 1 #[vR ra0] [(.ref ra0)])) (fun _ k => XS.aloadN X0.here hx rfl (hb hby d9_0) rfl rfl k) ?_
  obtain ⟨T2, X2, e2, st2⟩ := getF X0 hx hZ hown (host := "") (Or.inl (own_w hw 57)) Via.refl e0 F_calls_ra0 (g := (mkF m 1 #[vR ra0] [(.ref ra0)])) rfl rfl (hb hby d9_1)
  refine own_go (T' := T2) (g' := (mkF m 4 #[vR ra0] [(.int w1)])) st2 ?_
  by_cases hc3 : (0 : Int32) < w1
  · refine own_go (T' := T2) (g' := (mkF m 8 #[vR ra0] [(.ref ra0)])) (fun _ k => XS.ifNo X2.here hx rfl (hb hby d9_4) rfl ((if0 _ _).trans (tlt hc3).2.2.2) (XS.aloadN X2.here hx rfl (hb hby d9_7) rfl rfl k)) ?_
    obtain ⟨T4, X4, e4, st4⟩ := getF X2 hx hZ hown (host := "") (Or.inl (own_w hw 57)) Via.refl e2 F_calls_ra0 (g := (mkF m 8 #[vR ra0] [(.ref ra0)])) rfl rfl (hb hby d9_8)
    refine own_go (T' := T4) (g' := (mkF m 11 #[vR ra0] [(.int w1)])) st4 ?_
    refine own_go (T' := T4) (g' := (mkF m 26 #[vR ra0] [(.long (w1.toInt64))])) (fun _ k => XS.i2l X4.here hx rfl (hb hby d9_11) rfl (XS.goto X4.here hx rfl (pc0 := 12) (pc' := 26) rfl (hb hby d9_12) (by decide) (by decide) k)) ?_
    exact own_leaveN X4 hlk (v := some (.long (w1.toInt64))) (fun h => by rw [hret] at h; cases h) (lb rfl) (lb rfl) (by rw [e4]; exact (Or.inl ⟨hc3, rfl, N0, rfl⟩)) (fun fs hr => retOut X4 hx (t := .long) hret rfl (Or.inr (Or.inl ⟨rfl, rfl, _, rfl⟩)) (hb hby d9_26) hr)
  · refine own_go (T' := T2) (g' := (mkF m 16 #[vR ra0] [(.ref ra0)])) (fun _ k => XS.ifYes X2.here hx rfl (pc0 := 4) (pc' := 15) rfl (hb hby d9_4) rfl ((if0 _ _).trans (flt hc3).2.2.2) (by decide) (by decide) (XS.aloadN X2.here hx rfl (hb hby d9_15) rfl rfl k)) ?_
    obtain ⟨T6, X6, e6, st6⟩ := getF X2 hx hZ hown (host := "") (Or.inl (own_w hw 53)) Via.refl e2 F_rate_ra0 (g := (mkF m 16 #[vR ra0] [(.ref ra0)])) rfl rfl (hb hby d9_16)
    refine own_go (T' := T6) (g' := (mkF m 19 #[vR ra0] [(.int w5)])) st6 ?_
    refine own_go (T' := T6) (g' := (mkF m 21 #[vR ra0] [(.ref ra0), (.long (w5.toInt64))])) (fun _ k => XS.i2l X6.here hx rfl (hb hby d9_19) rfl (XS.aloadN X6.here hx rfl (hb hby d9_20) rfl rfl k)) ?_
    obtain ⟨T8, X8, e8, st8⟩ := getF X6 hx hZ hown (host := "") (Or.inl (own_w hw 55)) Via.refl e6 F_seconds_ra0 (g := (mkF m 21 #[vR ra0] [(.ref ra0), (.long (w5.toInt64))])) rfl rfl (hb hby d9_21)
    refine own_go (T' := T8) (g' := (mkF m 24 #[vR ra0] [(.int w7), (.long (w5.toInt64))])) st8 ?_
    refine own_go (T' := T8) (g' := (mkF m 26 #[vR ra0] [(.long ((w5.toInt64) * (w7.toInt64)))])) (fun _ k => XS.i2l X8.here hx rfl (hb hby d9_24) rfl (XS.lmul X8.here hx rfl (hb hby d9_25) rfl k)) ?_
    exact own_leaveN X8 hlk (v := some (.long ((w5.toInt64) * (w7.toInt64)))) (fun h => by rw [hret] at h; cases h) (lb rfl) (lb rfl) (by rw [e8]; exact (Or.inr ⟨hc3, rfl, N0, rfl⟩)) (fun fs hr => retOut X8 hx (t := .long) hret rfl (Or.inr (Or.inl ⟨rfl, rfl, _, rfl⟩)) (hb hby d9_26) hr)
abbrev R10_5 : Room := { frames := 0, cells := 0, slots := 0, locals := 0 }
def Q10_5 (Z : State) (ra0 : Addr) (w1 : Int32) (h0 : Heap) (n0 : Nat) (v : Option Value) (h : Heap) (L : List Loc) : Prop := ((0 : Int32) < w1 ∧ v = some (.int (1 : Int32)) ∧ Fr n0 L ∧ h = h0) ∨ ((¬ ((0 : Int32) < w1)) ∧ v = some (.int (0 : Int32)) ∧ Fr n0 L ∧ h = h0)
set_option maxRecDepth 65536 in
set_option maxHeartbeats 40000000 in
theorem rm10_5 (l : Launch) (Z : State) (a0 : Array Value) (hw : ∀ d ∈ tables_1, d.before a0 Z = true) (ra0 : Addr) (w1 : Int32) (h0 : Heap) (n0 : Nat) (OLD : Old Z n0 h0) (F_rate_ra0 : Fld Z h0 ra0 "com/example/tacit/tacit/bench/Settings" "rate" "I" (.int w1)) :
    own_CN l Z y4 prog_31_method_2_code 1 (some .boolean) [] R10_5 #[(.ref ra0)] h0 (Q10_5 Z ra0 w1 h0 n0) := by
  refine own_entryN (plainFor_of_name pn_1) fun p e s m below meth c s₁ hx hby hml hown hnm hret hlk hZ hh X0 e0 => ?_
  have N0 := Fr.nil n0
  rw [ef_10_5 m ra0]
  refine own_go (T' := s₁) (g' := (mkF m 1 #[vR ra0] [(.ref ra0)])) (fun _ k => XS.aloadN X0.here hx rfl (hb hby d10_0) rfl rfl k) ?_
  obtain ⟨T2, X2, e2, st2⟩ := getF X0 hx hZ hown (host := "") (Or.inl (own_w hw 53)) Via.refl e0 F_rate_ra0 (g := (mkF m 1 #[vR ra0] [(.ref ra0)])) rfl rfl (hb hby d10_1)
  refine own_go (T' := T2) (g' := (mkF m 4 #[vR ra0] [(.int w1)])) st2 ?_
  by_cases hc3 : (0 : Int32) < w1
  · refine own_go (T' := T2) (g' := (mkF m 12 #[vR ra0] [(.int (1 : Int32))])) (fun _ k => XS.ifNo X2.here hx rfl (hb hby d10_4) rfl ((if0 _ _).trans (tlt hc3).2.2.2) (XS.iconst X2.here hx rfl (hb hby d10_7) (XS.goto X2.here hx rfl (pc0 := 8) (pc' := 12) rfl (hb hby d10_8) (by decide) (by decide) k))) ?_
    exact own_leaveN X2 hlk (v := some (.int (nar .boolean (1 : Int32)))) (fun h => by rw [hret] at h; cases h) (lb rfl) (lb rfl) (by rw [e2]; exact (Or.inl ⟨hc3, rfl, N0, rfl⟩)) (fun fs hr => retN X2 hx (t := .boolean) hret (by simp) (hb hby d10_12) hr)
  · refine own_go (T' := T2) (g' := (mkF m 12 #[vR ra0] [(.int (0 : Int32))])) (fun _ k => XS.ifYes X2.here hx rfl (pc0 := 4) (pc' := 11) rfl (hb hby d10_4) rfl ((if0 _ _).trans (flt hc3).2.2.2) (by decide) (by decide) (XS.iconst X2.here hx rfl (hb hby d10_11) k)) ?_
    exact own_leaveN X2 hlk (v := some (.int (nar .boolean (0 : Int32)))) (fun h => by rw [hret] at h; cases h) (lb rfl) (lb rfl) (by rw [e2]; exact (Or.inr ⟨hc3, rfl, N0, rfl⟩)) (fun fs hr => retN X2 hx (t := .boolean) hret (by simp) (hb hby d10_12) hr)
def Qlaw (Z : State) (pi0 : Int32) (pi1 : Int32) (pi2 : Int32) (pi3 : Int32) (pj4 : Int64) (pj5 : Int64) (G1 : Int32) (h0 : Heap) (n0 : Nat) (v : Option Value) (h : Heap) (L : List Loc) : Prop := (v = some (.int (1 : Int32)) ∧ Fr n0 L)
set_option maxRecDepth 65536 in
set_option maxHeartbeats 40000000 in
theorem rmlaw (l : Launch) (Z : State) (a0 : Array Value) (hw : ∀ d ∈ tables_1, d.before a0 Z = true) (pi0 : Int32) (pi1 : Int32) (pi2 : Int32) (pi3 : Int32) (pj4 : Int64) (pj5 : Int64) (G1 : Int32) (h0 : Heap) (n0 : Nat) (OLD : Old Z n0 h0) (O2 : Sta Z Z.heap "java/lang/String" "COMPACT_STRINGS" "Z" (.int G1)) (P5 : ¬ (G1 = (0 : Int32))) :
    own_CN l Z x code maxLocals ret tables_1 room_1 #[(.int pi0), (.int pi1), (.int pi2), (.int pi3), (.long pj4), (.long pj5)] h0 (Qlaw Z pi0 pi1 pi2 pi3 pj4 pj5 G1 h0 n0) := by
  refine own_entryN (plainFor_of_name pn_2) fun p e s m below meth c s₁ hx hby hml hown hnm hret hlk hZ hh X0 e0 => ?_
  have N0 := Fr.nil n0
  rw [ef_law m pi0 pi1 pi2 pi3 pj4 pj5]
  refine own_go (T' := s₁) (g' := (mkF m 1 #[vI pi0, vI pi1, vI pi2, vI pi3, vJ pj4, vS, vJ pj5, vS, vU, vU, vU, vU, vU, vU, vU, vU, vU, vU, vU, vU, vU, vU, vU, vU, vU, vU, vU] [(.int pi1)])) (fun _ k => XS.iloadN X0.here hx rfl (hb hby at_0) rfl k) ?_
  refine own_go (T' := s₁) (g' := (mkF m 3 #[vI pi0, vI pi1, vI pi2, vI pi3, vJ pj4, vS, vJ pj5, vS, vU, vU, vU, vU, vU, vU, vU, vU, vU, vU, vU, vU, vU, vU, vU, vU, vU, vU, vU] [(.int (2147483647 : Int32)), (.int pi1)])) (fun t k => X0.ldcInt hx hown (mvT hZ (own_w hw 0)) (g := (mkF m 1 #[vI pi0, vI pi1, vI pi2, vI pi3, vJ pj4, vS, vJ pj5, vS, vU, vU, vU, vU, vU, vU, vU, vU, vU, vU, vU, vU, vU, vU, vU, vU, vU, vU, vU] [(.int pi1)])) rfl (hb hby at_1) t k) ?_
  refine own_go (T' := s₁) (g' := (mkF m 8 #[vI pi0, vI pi1, vI pi2, vI pi3, vJ pj4, vS, vJ pj5, vS, vI (pi1 &&& (2147483647 : Int32)), vU, vU, vU, vU, vU, vU, vU, vU, vU, vU, vU, vU, vU, vU, vU, vU, vU, vU] [(.int (pi1 &&& (2147483647 : Int32)))])) (fun _ k => XS.iand X0.here hx rfl (hb hby at_3) rfl (XS.istore X0.here hx rfl (hb hby at_4) rfl (l' := #[vI pi0, vI pi1, vI pi2, vI pi3, vJ pj4, vS, vJ pj5, vS, vI (pi1 &&& (2147483647 : Int32)), vU, vU, vU, vU, vU, vU, vU, vU, vU, vU, vU, vU, vU, vU, vU, vU, vU, vU]) rfl (XS.iload X0.here hx rfl (hb hby at_6) rfl k))) ?_
  have J1 : ∀ (rr : Int32), (0 : Int32) < rr → own_Fin p.tables e below (own_PN s (Qlaw Z pi0 pi1 pi2 pi3 pj4 pj5 G1 h0 n0) room_1.cells room_1.slots) s₁ (mkF m 14 #[vI pi0, vI pi1, vI pi2, vI pi3, vJ pj4, vS, vJ pj5, vS, vI rr, vU, vU, vU, vU, vU, vU, vU, vU, vU, vU, vU, vU, vU, vU, vU, vU, vU, vU] []) := by
    intro rr hv2
    refine own_go (T' := s₁) (g' := (mkF m 15 #[vI pi0, vI pi1, vI pi2, vI pi3, vJ pj4, vS, vJ pj5, vS, vI rr, vU, vU, vU, vU, vU, vU, vU, vU, vU, vU, vU, vU, vU, vU, vU, vU, vU, vU] [(.int pi2)])) (fun _ k => XS.iloadN X0.here hx rfl (hb hby at_14) rfl k) ?_
    refine own_go (T' := s₁) (g' := (mkF m 17 #[vI pi0, vI pi1, vI pi2, vI pi3, vJ pj4, vS, vJ pj5, vS, vI rr, vU, vU, vU, vU, vU, vU, vU, vU, vU, vU, vU, vU, vU, vU, vU, vU, vU, vU] [(.int (2147483647 : Int32)), (.int pi2)])) (fun t k => X0.ldcInt hx hown (mvT hZ (own_w hw 0)) (g := (mkF m 15 #[vI pi0, vI pi1, vI pi2, vI pi3, vJ pj4, vS, vJ pj5, vS, vI rr, vU, vU, vU, vU, vU, vU, vU, vU, vU, vU, vU, vU, vU, vU, vU, vU, vU, vU] [(.int pi2)])) rfl (hb hby at_15) t k) ?_
    refine own_go (T' := s₁) (g' := (mkF m 22 #[vI pi0, vI pi1, vI pi2, vI pi3, vJ pj4, vS, vJ pj5, vS, vI rr, vI (pi2 &&& (2147483647 : Int32)), vU, vU, vU, vU, vU, vU, vU, vU, vU, vU, vU, vU, vU, vU, vU, vU, vU] [(.int (pi2 &&& (2147483647 : Int32)))])) (fun _ k => XS.iand X0.here hx rfl (hb hby at_17) rfl (XS.istore X0.here hx rfl (hb hby at_18) rfl (l' := #[vI pi0, vI pi1, vI pi2, vI pi3, vJ pj4, vS, vJ pj5, vS, vI rr, vI (pi2 &&& (2147483647 : Int32)), vU, vU, vU, vU, vU, vU, vU, vU, vU, vU, vU, vU, vU, vU, vU, vU, vU]) rfl (XS.iload X0.here hx rfl (hb hby at_20) rfl k))) ?_
    have J3 : ∀ (nn : Int32), (0 : Int32) < nn → own_Fin p.tables e below (own_PN s (Qlaw Z pi0 pi1 pi2 pi3 pj4 pj5 G1 h0 n0) room_1.cells room_1.slots) s₁ (mkF m 28 #[vI pi0, vI pi1, vI pi2, vI pi3, vJ pj4, vS, vJ pj5, vS, vI rr, vI nn, vU, vU, vU, vU, vU, vU, vU, vU, vU, vU, vU, vU, vU, vU, vU, vU, vU] []) := by
      intro nn hv4
      refine own_go (T' := s₁) (g' := (mkF m 31 #[vI pi0, vI pi1, vI pi2, vI pi3, vJ pj4, vS, vJ pj5, vS, vI rr, vI nn, vU, vU, vU, vU, vU, vU, vU, vU, vU, vU, vU, vU, vU, vU, vU, vU, vU] [(.int (pi0 &&& (1 : Int32)))])) (fun _ k => XS.iloadN X0.here hx rfl (hb hby at_28) rfl (XS.iconst X0.here hx rfl (hb hby at_29) (XS.iand X0.here hx rfl (hb hby at_30) rfl k))) ?_
      by_cases hc5 : (pi0 &&& (1 : Int32)) = (0 : Int32)
      · refine own_go (T' := s₁) (g' := (mkF m 65 #[vI pi0, vI pi1, vI pi2, vI pi3, vJ pj4, vS, vJ pj5, vS, vI rr, vI nn, vI (0 : Int32), vI nn, vU, vU, vU, vU, vU, vU, vU, vU, vU, vU, vU, vU, vU, vU, vU] [(.int (0 : Int32))])) (fun _ k => XS.ifYes X0.here hx rfl (pc0 := 31) (pc' := 38) rfl (hb hby at_31) rfl ((if0 _ _).trans (teq hc5).1) (by decide) (by decide) (XS.iconst X0.here hx rfl (hb hby at_38) (XS.istore X0.here hx rfl (hb hby at_39) rfl (l' := #[vI pi0, vI pi1, vI pi2, vI pi3, vJ pj4, vS, vJ pj5, vS, vI rr, vI nn, vI (0 : Int32), vU, vU, vU, vU, vU, vU, vU, vU, vU, vU, vU, vU, vU, vU, vU, vU]) rfl (XS.iload X0.here hx rfl (hb hby at_41) rfl (XS.ifYes X0.here hx rfl (pc0 := 43) (pc' := 50) rfl (hb hby at_43) rfl ((if0 _ _).trans (teq (by decide : (0 : Int32) = (0 : Int32))).1) (by decide) (by decide) (XS.iload X0.here hx rfl (hb hby at_50) rfl (XS.istore X0.here hx rfl (hb hby at_52) rfl (l' := #[vI pi0, vI pi1, vI pi2, vI pi3, vJ pj4, vS, vJ pj5, vS, vI rr, vI nn, vI (0 : Int32), vI nn, vU, vU, vU, vU, vU, vU, vU, vU, vU, vU, vU, vU, vU, vU, vU]) rfl (XS.iload X0.here hx rfl (hb hby at_54) rfl (XS.ifYes X0.here hx rfl (pc0 := 56) (pc' := 64) rfl (hb hby at_56) rfl ((if0 _ _).trans (teq (by decide : (0 : Int32) = (0 : Int32))).1) (by decide) (by decide) (XS.iconst X0.here hx rfl (hb hby at_64) k)))))))))) ?_
        refine own_go (T' := s₁) (g' := (mkF m 68 #[vI pi0, vI pi1, vI pi2, vI pi3, vJ pj4, vS, vJ pj5, vS, vI rr, vI nn, vI (0 : Int32), vI nn, vI (0 : Int32), vU, vU, vU, vU, vU, vU, vU, vU, vU, vU, vU, vU, vU, vU] [(.int (1 : Int32))])) (fun _ k => XS.istore X0.here hx rfl (hb hby at_65) rfl (l' := #[vI pi0, vI pi1, vI pi2, vI pi3, vJ pj4, vS, vJ pj5, vS, vI rr, vI nn, vI (0 : Int32), vI nn, vI (0 : Int32), vU, vU, vU, vU, vU, vU, vU, vU, vU, vU, vU, vU, vU, vU]) rfl (XS.iconst X0.here hx rfl (hb hby at_67) k)) ?_
        obtain ⟨T6, h6, k6, X6, e6, E6, A6, st6⟩ := newP X0 hx hZ (own_w hw 1) e0 (g := (mkF m 68 #[vI pi0, vI pi1, vI pi2, vI pi3, vJ pj4, vS, vJ pj5, vS, vI rr, vI nn, vI (0 : Int32), vI nn, vI (0 : Int32), vU, vU, vU, vU, vU, vU, vU, vU, vU, vU, vU, vU, vU, vU] [(.int (1 : Int32))])) rfl (hb hby at_68) rfl (by decide) (cap := 1) (by decide) (lb rfl) (lb rfl) (lb rfl)
        obtain ⟨b6, gb6⟩ : ∃ z, z = h0.size := ⟨_, rfl⟩
        rw [← gb6] at A6 st6
        have g7 : n0 ≤ b6 := Nat.le_trans (own_osz OLD) (Nat.le_of_eq gb6.symm)
        have z8 : h0.size ≤ b6 := Nat.le_trans (Nat.le_refl _) (Nat.le_of_eq gb6.symm)
        have V6 : Arv Z h6 b6 k6 .char (1 : Int32) [(.int (0 : Int32))] (.int (0 : Int32)) := (Arv.new A6 (by decide)).pad (pad_rep [] (.int (0 : Int32)) 1)
        refine own_go (T' := T6) (g' := (mkF m 70 #[vI pi0, vI pi1, vI pi2, vI pi3, vJ pj4, vS, vJ pj5, vS, vI rr, vI nn, vI (0 : Int32), vI nn, vI (0 : Int32), vU, vU, vU, vU, vU, vU, vU, vU, vU, vU, vU, vU, vU, vU] [(.ref b6)])) st6 ?_
        refine own_go (T' := T6) (g' := (mkF m 80 #[vI pi0, vI pi1, vI pi2, vI pi3, vJ pj4, vS, vJ pj5, vS, vI rr, vI nn, vI (0 : Int32), vI nn, vI (0 : Int32), vR b6, vU, vU, vU, vU, vU, vU, vU, vU, vU, vU, vU, vU, vU] [(.int (pi3 &&& (255 : Int32))), (.int (0 : Int32)), (.ref b6)])) (fun _ k => XS.astore X6.here hx rfl (hb hby at_70) rfl rfl (l' := #[vI pi0, vI pi1, vI pi2, vI pi3, vJ pj4, vS, vJ pj5, vS, vI rr, vI nn, vI (0 : Int32), vI nn, vI (0 : Int32), vR b6, vU, vU, vU, vU, vU, vU, vU, vU, vU, vU, vU, vU, vU]) rfl (XS.aload X6.here hx rfl (hb hby at_72) rfl rfl (XS.iconst X6.here hx rfl (hb hby at_74) (XS.iloadN X6.here hx rfl (hb hby at_75) rfl (XS.sipush X6.here hx rfl (hb hby at_76) (XS.iand X6.here hx rfl (hb hby at_79) rfl k)))))) ?_
        refine own_go (T' := T6) (g' := (mkF m 81 #[vI pi0, vI pi1, vI pi2, vI pi3, vJ pj4, vS, vJ pj5, vS, vI rr, vI nn, vI (0 : Int32), vI nn, vI (0 : Int32), vR b6, vU, vU, vU, vU, vU, vU, vU, vU, vU, vU, vU, vU, vU] [(.int (pi3 &&& (255 : Int32))), (.int (0 : Int32)), (.ref b6)])) (fun _ k => XS.i2c X6.here hx rfl (hb hby at_80) rfl (by rw [i2c_mask]; exact k)) ?_
        obtain ⟨cl9, Ar9, qr9, Sr9, Nr9, Hr9, Gr9⟩ := id V6
        obtain ⟨T9, h9, X9, e9, W9, st9⟩ := stC X6 hx hZ e6 Ar9 (j := (0 : Int32)) (inb_of Sr9 ⟨by decide, by decide⟩) (g := (mkF m 81 #[vI pi0, vI pi1, vI pi2, vI pi3, vJ pj4, vS, vJ pj5, vS, vI rr, vI nn, vI (0 : Int32), vI nn, vI (0 : Int32), vR b6, vU, vU, vU, vU, vU, vU, vU, vU, vU, vU, vU, vU, vU] [(.int (pi3 &&& (255 : Int32))), (.int (0 : Int32)), (.ref b6)])) rfl rfl (hb hby at_81)
        have V9 : Arv Z h9 b6 k6 .char (1 : Int32) [(.int (nar .char (pi3 &&& (255 : Int32))))] (.int (0 : Int32)) := Arv.set Ar9 qr9 Sr9 Nr9 Hr9 Gr9 (fits_nar_char _) W9 0 rfl (lb rfl)
        rw [show nar .char (pi3 &&& (255 : Int32)) = (pi3 &&& (255 : Int32)) from (own_nc255 _)] at V9
        have N9 := Fr.snoc X9 N0 g7
        refine own_go (T' := T9) (g' := (mkF m 82 #[vI pi0, vI pi1, vI pi2, vI pi3, vJ pj4, vS, vJ pj5, vS, vI rr, vI nn, vI (0 : Int32), vI nn, vI (0 : Int32), vR b6, vU, vU, vU, vU, vU, vU, vU, vU, vU, vU, vU, vU, vU] [])) st9 ?_
        refine own_go (T' := T9) (g' := (mkF m 95 #[vI pi0, vI pi1, vI pi2, vI pi3, vJ pj4, vS, vJ pj5, vS, vI rr, vI nn, vI (0 : Int32), vI nn, vI (0 : Int32), vR b6, vI ((((pi0.toUInt32 >>> ((1 : Int32) &&& 31).toUInt32).toInt32) &&& (255 : Int32)) + (1 : Int32)), vU, vU, vU, vU, vU, vU, vU, vU, vU, vU, vU, vU] [(.long pj4)])) (fun _ k => XS.iloadN X9.here hx rfl (hb hby at_82) rfl (XS.iconst X9.here hx rfl (hb hby at_83) (XS.iushr X9.here hx rfl (hb hby at_84) rfl (XS.sipush X9.here hx rfl (hb hby at_85) (XS.iand X9.here hx rfl (hb hby at_88) rfl (XS.iconst X9.here hx rfl (hb hby at_89) (XS.iadd X9.here hx rfl (hb hby at_90) rfl (XS.istore X9.here hx rfl (hb hby at_91) rfl (l' := #[vI pi0, vI pi1, vI pi2, vI pi3, vJ pj4, vS, vJ pj5, vS, vI rr, vI nn, vI (0 : Int32), vI nn, vI (0 : Int32), vR b6, vI ((((pi0.toUInt32 >>> ((1 : Int32) &&& 31).toUInt32).toInt32) &&& (255 : Int32)) + (1 : Int32)), vU, vU, vU, vU, vU, vU, vU, vU, vU, vU, vU, vU]) rfl (XS.lload X9.here hx rfl (hb hby at_93) rfl k))))))))) ?_
        refine own_go (T' := T9) (g' := (mkF m 98 #[vI pi0, vI pi1, vI pi2, vI pi3, vJ pj4, vS, vJ pj5, vS, vI rr, vI nn, vI (0 : Int32), vI nn, vI (0 : Int32), vR b6, vI ((((pi0.toUInt32 >>> ((1 : Int32) &&& 31).toUInt32).toInt32) &&& (255 : Int32)) + (1 : Int32)), vU, vU, vU, vU, vU, vU, vU, vU, vU, vU, vU, vU] [(.long (9223372036854775807 : Int64)), (.long pj4)])) (fun t k => X9.ldc2Long hx hown (mvT hZ (own_w hw 2)) (g := (mkF m 95 #[vI pi0, vI pi1, vI pi2, vI pi3, vJ pj4, vS, vJ pj5, vS, vI rr, vI nn, vI (0 : Int32), vI nn, vI (0 : Int32), vR b6, vI ((((pi0.toUInt32 >>> ((1 : Int32) &&& 31).toUInt32).toInt32) &&& (255 : Int32)) + (1 : Int32)), vU, vU, vU, vU, vU, vU, vU, vU, vU, vU, vU, vU] [(.long pj4)])) rfl (hb hby at_95) t k) ?_
        refine own_go (T' := T9) (g' := (mkF m 105 #[vI pi0, vI pi1, vI pi2, vI pi3, vJ pj4, vS, vJ pj5, vS, vI rr, vI nn, vI (0 : Int32), vI nn, vI (0 : Int32), vR b6, vI ((((pi0.toUInt32 >>> ((1 : Int32) &&& 31).toUInt32).toInt32) &&& (255 : Int32)) + (1 : Int32)), vJ (pj4 &&& (9223372036854775807 : Int64)), vS, vU, vU, vU, vU, vU, vU, vU, vU, vU, vU] [(.int ((pi3.toUInt32 >>> ((8 : Int32) &&& 31).toUInt32).toInt32))])) (fun _ k => XS.land X9.here hx rfl (hb hby at_98) rfl (XS.lstore X9.here hx rfl (hb hby at_99) rfl (l' := #[vI pi0, vI pi1, vI pi2, vI pi3, vJ pj4, vS, vJ pj5, vS, vI rr, vI nn, vI (0 : Int32), vI nn, vI (0 : Int32), vR b6, vI ((((pi0.toUInt32 >>> ((1 : Int32) &&& 31).toUInt32).toInt32) &&& (255 : Int32)) + (1 : Int32)), vJ (pj4 &&& (9223372036854775807 : Int64)), vS, vU, vU, vU, vU, vU, vU, vU, vU, vU, vU]) rfl (XS.iloadN X9.here hx rfl (hb hby at_101) rfl (XS.bipush X9.here hx rfl (hb hby at_102) (XS.iushr X9.here hx rfl (hb hby at_104) rfl k))))) ?_
        refine own_go (T' := T9) (g' := (mkF m 107 #[vI pi0, vI pi1, vI pi2, vI pi3, vJ pj4, vS, vJ pj5, vS, vI rr, vI nn, vI (0 : Int32), vI nn, vI (0 : Int32), vR b6, vI ((((pi0.toUInt32 >>> ((1 : Int32) &&& 31).toUInt32).toInt32) &&& (255 : Int32)) + (1 : Int32)), vJ (pj4 &&& (9223372036854775807 : Int64)), vS, vU, vU, vU, vU, vU, vU, vU, vU, vU, vU] [(.int (65535 : Int32)), (.int ((pi3.toUInt32 >>> ((8 : Int32) &&& 31).toUInt32).toInt32))])) (fun t k => X9.ldcInt hx hown (mvT hZ (own_w hw 3)) (g := (mkF m 105 #[vI pi0, vI pi1, vI pi2, vI pi3, vJ pj4, vS, vJ pj5, vS, vI rr, vI nn, vI (0 : Int32), vI nn, vI (0 : Int32), vR b6, vI ((((pi0.toUInt32 >>> ((1 : Int32) &&& 31).toUInt32).toInt32) &&& (255 : Int32)) + (1 : Int32)), vJ (pj4 &&& (9223372036854775807 : Int64)), vS, vU, vU, vU, vU, vU, vU, vU, vU, vU, vU] [(.int ((pi3.toUInt32 >>> ((8 : Int32) &&& 31).toUInt32).toInt32))])) rfl (hb hby at_105) t k) ?_
        refine own_go (T' := T9) (g' := (mkF m 110 #[vI pi0, vI pi1, vI pi2, vI pi3, vJ pj4, vS, vJ pj5, vS, vI rr, vI nn, vI (0 : Int32), vI nn, vI (0 : Int32), vR b6, vI ((((pi0.toUInt32 >>> ((1 : Int32) &&& 31).toUInt32).toInt32) &&& (255 : Int32)) + (1 : Int32)), vJ (pj4 &&& (9223372036854775807 : Int64)), vS, vI (((pi3.toUInt32 >>> ((8 : Int32) &&& 31).toUInt32).toInt32) &&& (65535 : Int32)), vU, vU, vU, vU, vU, vU, vU, vU, vU] [])) (fun _ k => XS.iand X9.here hx rfl (hb hby at_107) rfl (XS.istore X9.here hx rfl (hb hby at_108) rfl (l' := #[vI pi0, vI pi1, vI pi2, vI pi3, vJ pj4, vS, vJ pj5, vS, vI rr, vI nn, vI (0 : Int32), vI nn, vI (0 : Int32), vR b6, vI ((((pi0.toUInt32 >>> ((1 : Int32) &&& 31).toUInt32).toInt32) &&& (255 : Int32)) + (1 : Int32)), vJ (pj4 &&& (9223372036854775807 : Int64)), vS, vI (((pi3.toUInt32 >>> ((8 : Int32) &&& 31).toUInt32).toInt32) &&& (65535 : Int32)), vU, vU, vU, vU, vU, vU, vU, vU, vU]) rfl k)) ?_
        obtain ⟨T10, h10, X10, e10, E10, A10, D10, -, st10⟩ := newO X9 hx hZ hown (own_w hw 4) (own_w hw 5) (own_w hw 6) e9 (g := (mkF m 110 #[vI pi0, vI pi1, vI pi2, vI pi3, vJ pj4, vS, vJ pj5, vS, vI rr, vI nn, vI (0 : Int32), vI nn, vI (0 : Int32), vR b6, vI ((((pi0.toUInt32 >>> ((1 : Int32) &&& 31).toUInt32).toInt32) &&& (255 : Int32)) + (1 : Int32)), vJ (pj4 &&& (9223372036854775807 : Int64)), vS, vI (((pi3.toUInt32 >>> ((8 : Int32) &&& 31).toUInt32).toInt32) &&& (65535 : Int32)), vU, vU, vU, vU, vU, vU, vU, vU, vU] [])) rfl (hb hby at_110) (lb rfl) (lb rfl)
        obtain ⟨b10, gb10⟩ : ∃ z, z = h9.size := ⟨_, rfl⟩
        rw [← gb10] at A10 D10 st10
        have F12 := ((OLD.ext E6).wr W9 g7)
        have g11 : n0 ≤ b10 := Nat.le_trans (own_osz F12) (Nat.le_of_eq gb10.symm)
        have F14 := (Nat.le_trans (Nat.le_trans (Nat.le_refl _) E6.1) (Nat.le_of_eq W9.size.symm))
        have z13 : h0.size ≤ b10 := Nat.le_trans F14 (Nat.le_of_eq gb10.symm)
        refine own_go (T' := T10) (g' := (mkF m 113 #[vI pi0, vI pi1, vI pi2, vI pi3, vJ pj4, vS, vJ pj5, vS, vI rr, vI nn, vI (0 : Int32), vI nn, vI (0 : Int32), vR b6, vI ((((pi0.toUInt32 >>> ((1 : Int32) &&& 31).toUInt32).toInt32) &&& (255 : Int32)) + (1 : Int32)), vJ (pj4 &&& (9223372036854775807 : Int64)), vS, vI (((pi3.toUInt32 >>> ((8 : Int32) &&& 31).toUInt32).toInt32) &&& (65535 : Int32)), vU, vU, vU, vU, vU, vU, vU, vU, vU] [(.ref b10)])) st10 ?_
        refine own_go (T' := T10) (g' := (mkF m 114 #[vI pi0, vI pi1, vI pi2, vI pi3, vJ pj4, vS, vJ pj5, vS, vI rr, vI nn, vI (0 : Int32), vI nn, vI (0 : Int32), vR b6, vI ((((pi0.toUInt32 >>> ((1 : Int32) &&& 31).toUInt32).toInt32) &&& (255 : Int32)) + (1 : Int32)), vJ (pj4 &&& (9223372036854775807 : Int64)), vS, vI (((pi3.toUInt32 >>> ((8 : Int32) &&& 31).toUInt32).toInt32) &&& (65535 : Int32)), vU, vU, vU, vU, vU, vU, vU, vU, vU] [(.ref b10), (.ref b10)])) (fun _ k => XS.dup X10.here hx rfl (hb hby at_113) rfl rfl k) ?_
        obtain ⟨T15, h15, X15, e15, E15, A15, D15, -, st15⟩ := newO X10 hx hZ hown (own_w hw 7) (own_w hw 8) (own_w hw 9) e10 (g := (mkF m 114 #[vI pi0, vI pi1, vI pi2, vI pi3, vJ pj4, vS, vJ pj5, vS, vI rr, vI nn, vI (0 : Int32), vI nn, vI (0 : Int32), vR b6, vI ((((pi0.toUInt32 >>> ((1 : Int32) &&& 31).toUInt32).toInt32) &&& (255 : Int32)) + (1 : Int32)), vJ (pj4 &&& (9223372036854775807 : Int64)), vS, vI (((pi3.toUInt32 >>> ((8 : Int32) &&& 31).toUInt32).toInt32) &&& (65535 : Int32)), vU, vU, vU, vU, vU, vU, vU, vU, vU] [(.ref b10), (.ref b10)])) rfl (hb hby at_114) (lb rfl) (lb rfl)
        obtain ⟨b15, gb15⟩ : ∃ z, z = h10.size := ⟨_, rfl⟩
        rw [← gb15] at A15 D15 st15
        have F17 := (F12.ext E10)
        have g16 : n0 ≤ b15 := Nat.le_trans (own_osz F17) (Nat.le_of_eq gb15.symm)
        have F19 := (Nat.le_trans F14 E10.1)
        have z18 : h0.size ≤ b15 := Nat.le_trans F19 (Nat.le_of_eq gb15.symm)
        refine own_go (T' := T15) (g' := (mkF m 117 #[vI pi0, vI pi1, vI pi2, vI pi3, vJ pj4, vS, vJ pj5, vS, vI rr, vI nn, vI (0 : Int32), vI nn, vI (0 : Int32), vR b6, vI ((((pi0.toUInt32 >>> ((1 : Int32) &&& 31).toUInt32).toInt32) &&& (255 : Int32)) + (1 : Int32)), vJ (pj4 &&& (9223372036854775807 : Int64)), vS, vI (((pi3.toUInt32 >>> ((8 : Int32) &&& 31).toUInt32).toInt32) &&& (65535 : Int32)), vU, vU, vU, vU, vU, vU, vU, vU, vU] [(.ref b15), (.ref b10), (.ref b10)])) st15 ?_
        refine own_go (T' := T15) (g' := (mkF m 120 #[vI pi0, vI pi1, vI pi2, vI pi3, vJ pj4, vS, vJ pj5, vS, vI rr, vI nn, vI (0 : Int32), vI nn, vI (0 : Int32), vR b6, vI ((((pi0.toUInt32 >>> ((1 : Int32) &&& 31).toUInt32).toInt32) &&& (255 : Int32)) + (1 : Int32)), vJ (pj4 &&& (9223372036854775807 : Int64)), vS, vI (((pi3.toUInt32 >>> ((8 : Int32) &&& 31).toUInt32).toInt32) &&& (65535 : Int32)), vU, vU, vU, vU, vU, vU, vU, vU, vU] [(.ref b6), (.ref b15), (.ref b15), (.ref b10), (.ref b10)])) (fun _ k => XS.dup X15.here hx rfl (hb hby at_117) rfl rfl (XS.aload X15.here hx rfl (hb hby at_118) rfl rfl k)) ?_
        have F20 := ((V9.ext E10).ext E15)
        have hp21 : ∀ c ∈ ([(pi3 &&& (255 : Int32))] : List Int32), ¬ c < 0 ∧ ¬ (255 : Int32) < c := by
          intro c hc
          simp only [List.mem_cons, List.not_mem_nil, or_false] at hc
          rcases hc with rfl
          · exact (own_m255 _)
        have F22 := (F17.ext E15)
        obtain ⟨_, _, ⟨T23, L23, k23, n23⟩, -, X23, ⟨Lc23, hQ23, l23, y23, z23⟩, st23⟩ := X15.specialBack hx (y := y0) rfl hown (mvT hZ (own_w hw 10)) (mvT hZ (own_w hw 11)) (mvT hZ (own_w hw 12)) (by decide) (StrChars.Road.backV (W := 3) hZ (own_hws hw) (kI := 4) (own_w hw 8) (cs := ([(pi3 &&& (255 : Int32))] : List Int32)) (bs := (([(pi3 &&& (255 : Int32))] : List Int32).map (fun c => c.toInt8.toInt32))) (n := 1) g16 (own_osz F22) A15 (D15 (Or.inr (own_w hw 35)) (ty := (.array .byte)) (by decide)) (D15 (Or.inr (own_w hw 33)) (ty := .byte) (by decide)) F20 (O2.ext F22.2) P5 rfl rfl (by decide) (by decide) hp21 rfl (lb rfl) (lb rfl)) (g := (mkF m 120 #[vI pi0, vI pi1, vI pi2, vI pi3, vJ pj4, vS, vJ pj5, vS, vI rr, vI nn, vI (0 : Int32), vI nn, vI (0 : Int32), vR b6, vI ((((pi0.toUInt32 >>> ((1 : Int32) &&& 31).toUInt32).toInt32) &&& (255 : Int32)) + (1 : Int32)), vJ (pj4 &&& (9223372036854775807 : Int64)), vS, vI (((pi3.toUInt32 >>> ((8 : Int32) &&& 31).toUInt32).toInt32) &&& (65535 : Int32)), vU, vU, vU, vU, vU, vU, vU, vU, vU] [(.ref b6), (.ref b15), (.ref b15), (.ref b10), (.ref b10)])) rfl (by rw [hml]; rfl) (Steps.refl _) (a := b15) (argsL := [(.ref b6)]) (rest := [(.ref b15), (.ref b10), (.ref b10)]) (lenOf pd_0 rfl) rfl (lb rfl) (hb hby at_120) (fun _ _ => ⟨rfl, e15, (lb rfl), (lb rfl)⟩)
        dsimp only [Pt.U, Pt.locs, Pt.cells, Pt.slots] at X23 l23 y23 z23 st23 hQ23
        subst l23 y23 z23
        obtain ⟨rfl, Nq23, K23, Ex23, Fc23, t23, kb23, -, lo23, -, Fv23, Av23⟩ := hQ23
        have N23 := Fr.app N9 Nq23
        have g24 : n0 ≤ t23 := Nat.le_trans (own_osz F22) lo23
        have F26 := (Nat.le_trans F19 E15.1)
        have z25 : h0.size ≤ t23 := Nat.le_trans F26 lo23
        refine own_to (T' := T23) (g' := (mkF m 123 #[vI pi0, vI pi1, vI pi2, vI pi3, vJ pj4, vS, vJ pj5, vS, vI rr, vI nn, vI (0 : Int32), vI nn, vI (0 : Int32), vR b6, vI ((((pi0.toUInt32 >>> ((1 : Int32) &&& 31).toUInt32).toInt32) &&& (255 : Int32)) + (1 : Int32)), vJ (pj4 &&& (9223372036854775807 : Int64)), vS, vI (((pi3.toUInt32 >>> ((8 : Int32) &&& 31).toUInt32).toInt32) &&& (65535 : Int32)), vU, vU, vU, vU, vU, vU, vU, vU, vU] [(.ref b15), (.ref b10), (.ref b10)])) st23 ?_
        refine own_go (T' := T23) (g' := (mkF m 138 #[vI pi0, vI pi1, vI pi2, vI pi3, vJ pj4, vS, vJ pj5, vS, vI rr, vI nn, vI (0 : Int32), vI nn, vI (0 : Int32), vR b6, vI ((((pi0.toUInt32 >>> ((1 : Int32) &&& 31).toUInt32).toInt32) &&& (255 : Int32)) + (1 : Int32)), vJ (pj4 &&& (9223372036854775807 : Int64)), vS, vI (((pi3.toUInt32 >>> ((8 : Int32) &&& 31).toUInt32).toInt32) &&& (65535 : Int32)), vU, vU, vU, vU, vU, vU, vU, vU, vU] [(.long pj5), (.int (((pi3.toUInt32 >>> ((8 : Int32) &&& 31).toUInt32).toInt32) &&& (65535 : Int32))), (.int (0 : Int32)), (.int nn), (.int rr), (.int (0 : Int32)), (.long (pj4 &&& (9223372036854775807 : Int64))), (.int ((((pi0.toUInt32 >>> ((1 : Int32) &&& 31).toUInt32).toInt32) &&& (255 : Int32)) + (1 : Int32))), (.ref b15), (.ref b10), (.ref b10)])) (fun _ k => XS.iload X23.here hx rfl (hb hby at_123) rfl (XS.lload X23.here hx rfl (hb hby at_125) rfl (XS.iconst X23.here hx rfl (hb hby at_127) (XS.iload X23.here hx rfl (hb hby at_128) rfl (XS.iload X23.here hx rfl (hb hby at_130) rfl (XS.iload X23.here hx rfl (hb hby at_132) rfl (XS.iload X23.here hx rfl (hb hby at_134) rfl (XS.lload X23.here hx rfl (hb hby at_136) rfl k)))))))) ?_
        have F27 := ((A10.ext E15).keep K23)
        have F28 := (((D10 (Or.inr (own_w hw 46)) (ty := (.object "java/lang/String")) (by decide)).ext E15).keep K23 (ninS (own_ne_lo A10.lt (Nat.le_of_eq gb15.symm)) nin0))
        have F29 := (((D10 (Or.inr (own_w hw 48)) (ty := .int) (by decide)).ext E15).keep K23 (ninS (own_ne_lo A10.lt (Nat.le_of_eq gb15.symm)) nin0))
        have F30 := (((D10 (Or.inr (own_w hw 50)) (ty := .long) (by decide)).ext E15).keep K23 (ninS (own_ne_lo A10.lt (Nat.le_of_eq gb15.symm)) nin0))
        have F31 := (((D10 (Or.inr (own_w hw 52)) (ty := .int) (by decide)).ext E15).keep K23 (ninS (own_ne_lo A10.lt (Nat.le_of_eq gb15.symm)) nin0))
        have F32 := (((D10 (Or.inr (own_w hw 54)) (ty := .int) (by decide)).ext E15).keep K23 (ninS (own_ne_lo A10.lt (Nat.le_of_eq gb15.symm)) nin0))
        have F33 := (((D10 (Or.inr (own_w hw 56)) (ty := .int) (by decide)).ext E15).keep K23 (ninS (own_ne_lo A10.lt (Nat.le_of_eq gb15.symm)) nin0))
        have F34 := (((D10 (Or.inr (own_w hw 58)) (ty := .int) (by decide)).ext E15).keep K23 (ninS (own_ne_lo A10.lt (Nat.le_of_eq gb15.symm)) nin0))
        have F35 := (((D10 (Or.inr (own_w hw 60)) (ty := .int) (by decide)).ext E15).keep K23 (ninS (own_ne_lo A10.lt (Nat.le_of_eq gb15.symm)) nin0))
        have F36 := (((D10 (Or.inr (own_w hw 62)) (ty := .long) (by decide)).ext E15).keep K23 (ninS (own_ne_lo A10.lt (Nat.le_of_eq gb15.symm)) nin0))
        have F37 := (F22.keep K23 (allS g16 all0))
        obtain ⟨_, _, ⟨T38, L38, k38, n38⟩, -, X38, ⟨Lc38, hQ38, l38, y38, z38⟩, st38⟩ := X23.specialBack hx (y := y2) rfl hown (mvT hZ (own_w hw 36)) (mvT hZ (own_w hw 37)) (mvT hZ (own_w hw 38)) (by decide) (backOf (W := 1) (rm7_2 l Z a0 hw b10 b15 (((((pi0.toUInt32 >>> ((1 : Int32) &&& 31).toUInt32).toInt32) &&& (255 : Int32)) + (1 : Int32))) ((pj4 &&& (9223372036854775807 : Int64))) ((0 : Int32)) rr nn ((0 : Int32)) ((((pi3.toUInt32 >>> ((8 : Int32) &&& 31).toUInt32).toInt32) &&& (65535 : Int32))) pj5 (.null) ((.int (0 : Int32))) ((.long (0 : Int64))) ((.int (0 : Int32))) ((.int (0 : Int32))) ((.int (0 : Int32))) ((.int (0 : Int32))) ((.int (0 : Int32))) ((.long (0 : Int64))) T23.heap n0 F37 F27 F28 g11 F29 F30 F31 F32 F33 F34 F35 F36) hZ (own_w hw 38) (own_w hw 6) (lb rfl) (lb rfl)) (g := (mkF m 138 #[vI pi0, vI pi1, vI pi2, vI pi3, vJ pj4, vS, vJ pj5, vS, vI rr, vI nn, vI (0 : Int32), vI nn, vI (0 : Int32), vR b6, vI ((((pi0.toUInt32 >>> ((1 : Int32) &&& 31).toUInt32).toInt32) &&& (255 : Int32)) + (1 : Int32)), vJ (pj4 &&& (9223372036854775807 : Int64)), vS, vI (((pi3.toUInt32 >>> ((8 : Int32) &&& 31).toUInt32).toInt32) &&& (65535 : Int32)), vU, vU, vU, vU, vU, vU, vU, vU, vU] [(.long pj5), (.int (((pi3.toUInt32 >>> ((8 : Int32) &&& 31).toUInt32).toInt32) &&& (65535 : Int32))), (.int (0 : Int32)), (.int nn), (.int rr), (.int (0 : Int32)), (.long (pj4 &&& (9223372036854775807 : Int64))), (.int ((((pi0.toUInt32 >>> ((1 : Int32) &&& 31).toUInt32).toInt32) &&& (255 : Int32)) + (1 : Int32))), (.ref b15), (.ref b10), (.ref b10)])) rfl (by rw [hml]; rfl) (Steps.refl _) (a := b10) (argsL := [(.ref b15), (.int ((((pi0.toUInt32 >>> ((1 : Int32) &&& 31).toUInt32).toInt32) &&& (255 : Int32)) + (1 : Int32))), (.long (pj4 &&& (9223372036854775807 : Int64))), (.int (0 : Int32)), (.int rr), (.int nn), (.int (0 : Int32)), (.int (((pi3.toUInt32 >>> ((8 : Int32) &&& 31).toUInt32).toInt32) &&& (65535 : Int32))), (.long pj5)]) (rest := [(.ref b10)]) (lenOf pd_2 rfl) rfl (lb rfl) (hb hby at_138) (fun _ _ => ⟨rfl, rfl, (lb rfl), (lb rfl)⟩)
        dsimp only [Pt.U, Pt.locs, Pt.cells, Pt.slots] at X38 l38 y38 z38 st38 hQ38
        subst l38 y38 z38
        obtain ⟨rfl, Nq38, K38, f39, f40, f41, f42, f43, f44, f45, f46, f47⟩ := hQ38
        have N38 := Fr.app N23 Nq38
        refine own_to (T' := T38) (g' := (mkF m 141 #[vI pi0, vI pi1, vI pi2, vI pi3, vJ pj4, vS, vJ pj5, vS, vI rr, vI nn, vI (0 : Int32), vI nn, vI (0 : Int32), vR b6, vI ((((pi0.toUInt32 >>> ((1 : Int32) &&& 31).toUInt32).toInt32) &&& (255 : Int32)) + (1 : Int32)), vJ (pj4 &&& (9223372036854775807 : Int64)), vS, vI (((pi3.toUInt32 >>> ((8 : Int32) &&& 31).toUInt32).toInt32) &&& (65535 : Int32)), vU, vU, vU, vU, vU, vU, vU, vU, vU] [(.ref b10)])) st38 ?_
        refine own_go (T' := T38) (g' := (mkF m 145 #[vI pi0, vI pi1, vI pi2, vI pi3, vJ pj4, vS, vJ pj5, vS, vI rr, vI nn, vI (0 : Int32), vI nn, vI (0 : Int32), vR b6, vI ((((pi0.toUInt32 >>> ((1 : Int32) &&& 31).toUInt32).toInt32) &&& (255 : Int32)) + (1 : Int32)), vJ (pj4 &&& (9223372036854775807 : Int64)), vS, vI (((pi3.toUInt32 >>> ((8 : Int32) &&& 31).toUInt32).toInt32) &&& (65535 : Int32)), vR b10, vU, vU, vU, vU, vU, vU, vU, vU] [(.ref b10)])) (fun _ k => XS.astore X38.here hx rfl (hb hby at_141) rfl rfl (l' := #[vI pi0, vI pi1, vI pi2, vI pi3, vJ pj4, vS, vJ pj5, vS, vI rr, vI nn, vI (0 : Int32), vI nn, vI (0 : Int32), vR b6, vI ((((pi0.toUInt32 >>> ((1 : Int32) &&& 31).toUInt32).toInt32) &&& (255 : Int32)) + (1 : Int32)), vJ (pj4 &&& (9223372036854775807 : Int64)), vS, vI (((pi3.toUInt32 >>> ((8 : Int32) &&& 31).toUInt32).toInt32) &&& (65535 : Int32)), vR b10, vU, vU, vU, vU, vU, vU, vU, vU]) rfl (XS.aload X38.here hx rfl (hb hby at_143) rfl rfl k)) ?_
        have F48 := (F37.keep K38 (allS g11 all0))
        have F50 := (F27.keep K38)
        obtain ⟨cq49, kq49, q49a, q49b, q49c⟩ := isOf hZ rfl F50
        obtain ⟨_, _, ⟨T49, L49, k49, n49⟩, -, X49, ⟨Lc49, hQ49, l49, y49, z49⟩, st49⟩ := X38.virtualBack hx (y := y3) (z := y3) hown (mvT hZ (own_w hw 63)) (mvT hZ (own_w hw 64)) (notFace_of_selects (args := #[]) (mvT hZ (own_w hw 66))) (mvT hZ (own_w hw 66)) (mvT hZ (own_w hw 65)) (by decide) (backOf (W := 0) (rm9_4 l Z a0 hw b10 ((0 : Int32)) rr nn T38.heap n0 F48 f45 f43 f44) hZ (own_w hw 67) (own_w hw 6) (lb rfl) (lb rfl)) q49a q49c (g := (mkF m 145 #[vI pi0, vI pi1, vI pi2, vI pi3, vJ pj4, vS, vJ pj5, vS, vI rr, vI nn, vI (0 : Int32), vI nn, vI (0 : Int32), vR b6, vI ((((pi0.toUInt32 >>> ((1 : Int32) &&& 31).toUInt32).toInt32) &&& (255 : Int32)) + (1 : Int32)), vJ (pj4 &&& (9223372036854775807 : Int64)), vS, vI (((pi3.toUInt32 >>> ((8 : Int32) &&& 31).toUInt32).toInt32) &&& (65535 : Int32)), vR b10, vU, vU, vU, vU, vU, vU, vU, vU] [(.ref b10)])) rfl (by rw [hml]; rfl) (Steps.refl _) (argsL := []) (rest := []) (lenOf pd_3 rfl) rfl (lb rfl) (hb hby at_145) (fun _ _ => ⟨rfl, rfl, (lb rfl), (lb rfl)⟩)
        dsimp only [Pt.U, Pt.locs, Pt.cells, Pt.slots] at X49 l49 y49 z49 st49 hQ49
        subst l49 y49 z49
        rcases hQ49 with hQ49 | hQ49
        · exfalso
          obtain ⟨hd0, -⟩ := hQ49
          exact absurd hd0 (by decide : ¬ ((0 : Int32) < (0 : Int32)))
        · obtain ⟨hc51, rfl, Nq49, eq49⟩ := hQ49
          have N49 := Fr.app N38 Nq49
          refine own_to (T' := T49) (g' := (mkF m 148 #[vI pi0, vI pi1, vI pi2, vI pi3, vJ pj4, vS, vJ pj5, vS, vI rr, vI nn, vI (0 : Int32), vI nn, vI (0 : Int32), vR b6, vI ((((pi0.toUInt32 >>> ((1 : Int32) &&& 31).toUInt32).toInt32) &&& (255 : Int32)) + (1 : Int32)), vJ (pj4 &&& (9223372036854775807 : Int64)), vS, vI (((pi3.toUInt32 >>> ((8 : Int32) &&& 31).toUInt32).toInt32) &&& (65535 : Int32)), vR b10, vU, vU, vU, vU, vU, vU, vU, vU] [(.long ((rr.toInt64) * (nn.toInt64)))])) st49 ?_
          refine own_go (T' := T49) (g' := (mkF m 175 #[vI pi0, vI pi1, vI pi2, vI pi3, vJ pj4, vS, vJ pj5, vS, vI rr, vI nn, vI (0 : Int32), vI nn, vI (0 : Int32), vR b6, vI ((((pi0.toUInt32 >>> ((1 : Int32) &&& 31).toUInt32).toInt32) &&& (255 : Int32)) + (1 : Int32)), vJ (pj4 &&& (9223372036854775807 : Int64)), vS, vI (((pi3.toUInt32 >>> ((8 : Int32) &&& 31).toUInt32).toInt32) &&& (65535 : Int32)), vR b10, vJ ((rr.toInt64) * (nn.toInt64)), vS, vU, vU, vJ (rr.toInt64), vS, vJ (nn.toInt64), vS] [(.long (rr.toInt64))])) (fun _ k => XS.lstore X49.here hx rfl (hb hby at_148) rfl (l' := #[vI pi0, vI pi1, vI pi2, vI pi3, vJ pj4, vS, vJ pj5, vS, vI rr, vI nn, vI (0 : Int32), vI nn, vI (0 : Int32), vR b6, vI ((((pi0.toUInt32 >>> ((1 : Int32) &&& 31).toUInt32).toInt32) &&& (255 : Int32)) + (1 : Int32)), vJ (pj4 &&& (9223372036854775807 : Int64)), vS, vI (((pi3.toUInt32 >>> ((8 : Int32) &&& 31).toUInt32).toInt32) &&& (65535 : Int32)), vR b10, vJ ((rr.toInt64) * (nn.toInt64)), vS, vU, vU, vU, vU, vU, vU]) rfl (XS.iload X49.here hx rfl (hb hby at_150) rfl (XS.ifYes X49.here hx rfl (pc0 := 152) (pc' := 163) rfl (hb hby at_152) rfl ((if0 _ _).trans (teq (by decide : (0 : Int32) = (0 : Int32))).1) (by decide) (by decide) (XS.iload X49.here hx rfl (hb hby at_163) rfl (XS.i2l X49.here hx rfl (hb hby at_165) rfl (XS.lstore X49.here hx rfl (hb hby at_166) rfl (l' := #[vI pi0, vI pi1, vI pi2, vI pi3, vJ pj4, vS, vJ pj5, vS, vI rr, vI nn, vI (0 : Int32), vI nn, vI (0 : Int32), vR b6, vI ((((pi0.toUInt32 >>> ((1 : Int32) &&& 31).toUInt32).toInt32) &&& (255 : Int32)) + (1 : Int32)), vJ (pj4 &&& (9223372036854775807 : Int64)), vS, vI (((pi3.toUInt32 >>> ((8 : Int32) &&& 31).toUInt32).toInt32) &&& (65535 : Int32)), vR b10, vJ ((rr.toInt64) * (nn.toInt64)), vS, vU, vU, vJ (rr.toInt64), vS, vU, vU]) rfl (XS.iload X49.here hx rfl (hb hby at_168) rfl (XS.i2l X49.here hx rfl (hb hby at_170) rfl (XS.lstore X49.here hx rfl (hb hby at_171) rfl (l' := #[vI pi0, vI pi1, vI pi2, vI pi3, vJ pj4, vS, vJ pj5, vS, vI rr, vI nn, vI (0 : Int32), vI nn, vI (0 : Int32), vR b6, vI ((((pi0.toUInt32 >>> ((1 : Int32) &&& 31).toUInt32).toInt32) &&& (255 : Int32)) + (1 : Int32)), vJ (pj4 &&& (9223372036854775807 : Int64)), vS, vI (((pi3.toUInt32 >>> ((8 : Int32) &&& 31).toUInt32).toInt32) &&& (65535 : Int32)), vR b10, vJ ((rr.toInt64) * (nn.toInt64)), vS, vU, vU, vJ (rr.toInt64), vS, vJ (nn.toInt64), vS]) rfl (XS.lload X49.here hx rfl (hb hby at_173) rfl k)))))))))) ?_
          refine own_go (T' := T49) (g' := (mkF m 185 #[vI pi0, vI pi1, vI pi2, vI pi3, vJ pj4, vS, vJ pj5, vS, vI rr, vI nn, vI (0 : Int32), vI nn, vI (0 : Int32), vR b6, vI ((((pi0.toUInt32 >>> ((1 : Int32) &&& 31).toUInt32).toInt32) &&& (255 : Int32)) + (1 : Int32)), vJ (pj4 &&& (9223372036854775807 : Int64)), vS, vI (((pi3.toUInt32 >>> ((8 : Int32) &&& 31).toUInt32).toInt32) &&& (65535 : Int32)), vR b10, vJ ((rr.toInt64) * (nn.toInt64)), vS, vJ ((rr.toInt64) * (nn.toInt64)), vS, vJ (rr.toInt64), vS, vJ (nn.toInt64), vS] [(.int (lcmpW ((rr.toInt64) * (nn.toInt64)) ((rr.toInt64) * (nn.toInt64))))])) (fun _ k => XS.lload X49.here hx rfl (hb hby at_175) rfl (XS.lmul X49.here hx rfl (hb hby at_177) rfl (XS.lstore X49.here hx rfl (hb hby at_178) rfl (l' := #[vI pi0, vI pi1, vI pi2, vI pi3, vJ pj4, vS, vJ pj5, vS, vI rr, vI nn, vI (0 : Int32), vI nn, vI (0 : Int32), vR b6, vI ((((pi0.toUInt32 >>> ((1 : Int32) &&& 31).toUInt32).toInt32) &&& (255 : Int32)) + (1 : Int32)), vJ (pj4 &&& (9223372036854775807 : Int64)), vS, vI (((pi3.toUInt32 >>> ((8 : Int32) &&& 31).toUInt32).toInt32) &&& (65535 : Int32)), vR b10, vJ ((rr.toInt64) * (nn.toInt64)), vS, vJ ((rr.toInt64) * (nn.toInt64)), vS, vJ (rr.toInt64), vS, vJ (nn.toInt64), vS]) rfl (XS.lload X49.here hx rfl (hb hby at_180) rfl (XS.lload X49.here hx rfl (hb hby at_182) rfl (XS.lcmp X49.here hx rfl (hb hby at_184) rfl k)))))) ?_
          refine own_go (T' := T49) (g' := (mkF m 192 #[vI pi0, vI pi1, vI pi2, vI pi3, vJ pj4, vS, vJ pj5, vS, vI rr, vI nn, vI (0 : Int32), vI nn, vI (0 : Int32), vR b6, vI ((((pi0.toUInt32 >>> ((1 : Int32) &&& 31).toUInt32).toInt32) &&& (255 : Int32)) + (1 : Int32)), vJ (pj4 &&& (9223372036854775807 : Int64)), vS, vI (((pi3.toUInt32 >>> ((8 : Int32) &&& 31).toUInt32).toInt32) &&& (65535 : Int32)), vR b10, vJ ((rr.toInt64) * (nn.toInt64)), vS, vJ ((rr.toInt64) * (nn.toInt64)), vS, vJ (rr.toInt64), vS, vJ (nn.toInt64), vS] [(.int (lcmpW ((rr.toInt64) * (nn.toInt64)) (1 : Int64)))])) (fun _ k => XS.ifNo X49.here hx rfl (hb hby at_185) rfl ((if0 _ _).trans (teq (own_lcmp_self _)).2) (XS.lload X49.here hx rfl (hb hby at_188) rfl (XS.lconst X49.here hx rfl (hb hby at_190) (XS.lcmp X49.here hx rfl (hb hby at_191) rfl k)))) ?_
          refine own_go (T' := T49) (g' := (mkF m 197 #[vI pi0, vI pi1, vI pi2, vI pi3, vJ pj4, vS, vJ pj5, vS, vI rr, vI nn, vI (0 : Int32), vI nn, vI (0 : Int32), vR b6, vI ((((pi0.toUInt32 >>> ((1 : Int32) &&& 31).toUInt32).toInt32) &&& (255 : Int32)) + (1 : Int32)), vJ (pj4 &&& (9223372036854775807 : Int64)), vS, vI (((pi3.toUInt32 >>> ((8 : Int32) &&& 31).toUInt32).toInt32) &&& (65535 : Int32)), vR b10, vJ ((rr.toInt64) * (nn.toInt64)), vS, vJ ((rr.toInt64) * (nn.toInt64)), vS, vJ (rr.toInt64), vS, vJ (nn.toInt64), vS] [(.ref b10)])) (fun _ k => XS.ifNo X49.here hx rfl (hb hby at_192) rfl ((if0 _ _).trans (flt (own_ge1 (by first | exact own_wide hv4 | exact own_mul hv2 hv4))).1) (XS.aload X49.here hx rfl (hb hby at_195) rfl rfl k)) ?_
          obtain ⟨cq52, kq52, q52a, q52b, q52c⟩ := isOf hZ eq49 F50
          obtain ⟨_, _, ⟨T52, L52, k52, n52⟩, -, X52, ⟨Lc52, hQ52, l52, y52, z52⟩, st52⟩ := X49.virtualBack hx (y := y4) (z := y4) hown (mvT hZ (own_w hw 68)) (mvT hZ (own_w hw 69)) (notFace_of_selects (args := #[]) (mvT hZ (own_w hw 71))) (mvT hZ (own_w hw 71)) (mvT hZ (own_w hw 70)) (by decide) (backOf (W := 0) (rm10_5 l Z a0 hw b10 rr T38.heap n0 F48 f43) hZ (own_w hw 72) (own_w hw 6) (lb rfl) (lb rfl)) q52a q52c (g := (mkF m 197 #[vI pi0, vI pi1, vI pi2, vI pi3, vJ pj4, vS, vJ pj5, vS, vI rr, vI nn, vI (0 : Int32), vI nn, vI (0 : Int32), vR b6, vI ((((pi0.toUInt32 >>> ((1 : Int32) &&& 31).toUInt32).toInt32) &&& (255 : Int32)) + (1 : Int32)), vJ (pj4 &&& (9223372036854775807 : Int64)), vS, vI (((pi3.toUInt32 >>> ((8 : Int32) &&& 31).toUInt32).toInt32) &&& (65535 : Int32)), vR b10, vJ ((rr.toInt64) * (nn.toInt64)), vS, vJ ((rr.toInt64) * (nn.toInt64)), vS, vJ (rr.toInt64), vS, vJ (nn.toInt64), vS] [(.ref b10)])) rfl (by rw [hml]; rfl) (Steps.refl _) (argsL := []) (rest := []) (lenOf pd_4 rfl) rfl (lb rfl) (hb hby at_197) (fun _ _ => ⟨rfl, eq49, (lb rfl), (lb rfl)⟩)
          dsimp only [Pt.U, Pt.locs, Pt.cells, Pt.slots] at X52 l52 y52 z52 st52 hQ52
          subst l52 y52 z52
          rcases hQ52 with hQ52 | hQ52
          · obtain ⟨hc53, rfl, Nq52, eq52⟩ := hQ52
            have N52 := Fr.app N49 Nq52
            refine own_to (T' := T52) (g' := (mkF m 200 #[vI pi0, vI pi1, vI pi2, vI pi3, vJ pj4, vS, vJ pj5, vS, vI rr, vI nn, vI (0 : Int32), vI nn, vI (0 : Int32), vR b6, vI ((((pi0.toUInt32 >>> ((1 : Int32) &&& 31).toUInt32).toInt32) &&& (255 : Int32)) + (1 : Int32)), vJ (pj4 &&& (9223372036854775807 : Int64)), vS, vI (((pi3.toUInt32 >>> ((8 : Int32) &&& 31).toUInt32).toInt32) &&& (65535 : Int32)), vR b10, vJ ((rr.toInt64) * (nn.toInt64)), vS, vJ ((rr.toInt64) * (nn.toInt64)), vS, vJ (rr.toInt64), vS, vJ (nn.toInt64), vS] [(.int (1 : Int32))])) st52 ?_
            refine own_go (T' := T52) (g' := (mkF m 208 #[vI pi0, vI pi1, vI pi2, vI pi3, vJ pj4, vS, vJ pj5, vS, vI rr, vI nn, vI (0 : Int32), vI nn, vI (0 : Int32), vR b6, vI ((((pi0.toUInt32 >>> ((1 : Int32) &&& 31).toUInt32).toInt32) &&& (255 : Int32)) + (1 : Int32)), vJ (pj4 &&& (9223372036854775807 : Int64)), vS, vI (((pi3.toUInt32 >>> ((8 : Int32) &&& 31).toUInt32).toInt32) &&& (65535 : Int32)), vR b10, vJ ((rr.toInt64) * (nn.toInt64)), vS, vJ ((rr.toInt64) * (nn.toInt64)), vS, vJ (rr.toInt64), vS, vJ (nn.toInt64), vS] [(.int (1 : Int32))])) (fun _ k => XS.ifNo X52.here hx rfl (hb hby at_200) rfl ((if0 _ _).trans (feq (by decide : ¬ ((1 : Int32) = (0 : Int32)))).1) (XS.iconst X52.here hx rfl (hb hby at_203) (XS.goto X52.here hx rfl (pc0 := 204) (pc' := 208) rfl (hb hby at_204) (by decide) (by decide) k))) ?_
            exact own_leaveN X52 hlk (v := some (.int (nar .boolean (1 : Int32)))) (fun h => by rw [hret] at h; cases h) (lb rfl) (lb rfl) (by rw [eq52]; exact ⟨rfl, N52⟩) (fun fs hr => retN X52 hx (t := .boolean) hret (by simp) (hb hby at_208) hr)
          · exfalso
            obtain ⟨hd0, -⟩ := hQ52
            exact absurd hd0 (fun q => q hv2)
      · refine own_go (T' := s₁) (g' := (mkF m 56 #[vI pi0, vI pi1, vI pi2, vI pi3, vJ pj4, vS, vJ pj5, vS, vI rr, vI nn, vI (1 : Int32), vI (0 : Int32), vU, vU, vU, vU, vU, vU, vU, vU, vU, vU, vU, vU, vU, vU, vU] [(.int (1 : Int32))])) (fun _ k => XS.ifNo X0.here hx rfl (hb hby at_31) rfl ((if0 _ _).trans (feq hc5).1) (XS.iconst X0.here hx rfl (hb hby at_34) (XS.goto X0.here hx rfl (pc0 := 35) (pc' := 39) rfl (hb hby at_35) (by decide) (by decide) (XS.istore X0.here hx rfl (hb hby at_39) rfl (l' := #[vI pi0, vI pi1, vI pi2, vI pi3, vJ pj4, vS, vJ pj5, vS, vI rr, vI nn, vI (1 : Int32), vU, vU, vU, vU, vU, vU, vU, vU, vU, vU, vU, vU, vU, vU, vU, vU]) rfl (XS.iload X0.here hx rfl (hb hby at_41) rfl (XS.ifNo X0.here hx rfl (hb hby at_43) rfl ((if0 _ _).trans (feq (by decide : ¬ ((1 : Int32) = (0 : Int32)))).1) (XS.iconst X0.here hx rfl (hb hby at_46) (XS.goto X0.here hx rfl (pc0 := 47) (pc' := 52) rfl (hb hby at_47) (by decide) (by decide) (XS.istore X0.here hx rfl (hb hby at_52) rfl (l' := #[vI pi0, vI pi1, vI pi2, vI pi3, vJ pj4, vS, vJ pj5, vS, vI rr, vI nn, vI (1 : Int32), vI (0 : Int32), vU, vU, vU, vU, vU, vU, vU, vU, vU, vU, vU, vU, vU, vU, vU]) rfl (XS.iload X0.here hx rfl (hb hby at_54) rfl k)))))))))) ?_
        refine own_go (T' := s₁) (g' := (mkF m 68 #[vI pi0, vI pi1, vI pi2, vI pi3, vJ pj4, vS, vJ pj5, vS, vI rr, vI nn, vI (1 : Int32), vI (0 : Int32), vI nn, vU, vU, vU, vU, vU, vU, vU, vU, vU, vU, vU, vU, vU, vU] [(.int (1 : Int32))])) (fun _ k => XS.ifNo X0.here hx rfl (hb hby at_56) rfl ((if0 _ _).trans (feq (by decide : ¬ ((1 : Int32) = (0 : Int32)))).1) (XS.iload X0.here hx rfl (hb hby at_59) rfl (XS.goto X0.here hx rfl (pc0 := 61) (pc' := 65) rfl (hb hby at_61) (by decide) (by decide) (XS.istore X0.here hx rfl (hb hby at_65) rfl (l' := #[vI pi0, vI pi1, vI pi2, vI pi3, vJ pj4, vS, vJ pj5, vS, vI rr, vI nn, vI (1 : Int32), vI (0 : Int32), vI nn, vU, vU, vU, vU, vU, vU, vU, vU, vU, vU, vU, vU, vU, vU]) rfl (XS.iconst X0.here hx rfl (hb hby at_67) k))))) ?_
        obtain ⟨T54, h54, k54, X54, e54, E54, A54, st54⟩ := newP X0 hx hZ (own_w hw 1) e0 (g := (mkF m 68 #[vI pi0, vI pi1, vI pi2, vI pi3, vJ pj4, vS, vJ pj5, vS, vI rr, vI nn, vI (1 : Int32), vI (0 : Int32), vI nn, vU, vU, vU, vU, vU, vU, vU, vU, vU, vU, vU, vU, vU, vU] [(.int (1 : Int32))])) rfl (hb hby at_68) rfl (by decide) (cap := 1) (by decide) (lb rfl) (lb rfl) (lb rfl)
        obtain ⟨b54, gb54⟩ : ∃ z, z = h0.size := ⟨_, rfl⟩
        rw [← gb54] at A54 st54
        have g55 : n0 ≤ b54 := Nat.le_trans (own_osz OLD) (Nat.le_of_eq gb54.symm)
        have z56 : h0.size ≤ b54 := Nat.le_trans (Nat.le_refl _) (Nat.le_of_eq gb54.symm)
        have V54 : Arv Z h54 b54 k54 .char (1 : Int32) [(.int (0 : Int32))] (.int (0 : Int32)) := (Arv.new A54 (by decide)).pad (pad_rep [] (.int (0 : Int32)) 1)
        refine own_go (T' := T54) (g' := (mkF m 70 #[vI pi0, vI pi1, vI pi2, vI pi3, vJ pj4, vS, vJ pj5, vS, vI rr, vI nn, vI (1 : Int32), vI (0 : Int32), vI nn, vU, vU, vU, vU, vU, vU, vU, vU, vU, vU, vU, vU, vU, vU] [(.ref b54)])) st54 ?_
        refine own_go (T' := T54) (g' := (mkF m 80 #[vI pi0, vI pi1, vI pi2, vI pi3, vJ pj4, vS, vJ pj5, vS, vI rr, vI nn, vI (1 : Int32), vI (0 : Int32), vI nn, vR b54, vU, vU, vU, vU, vU, vU, vU, vU, vU, vU, vU, vU, vU] [(.int (pi3 &&& (255 : Int32))), (.int (0 : Int32)), (.ref b54)])) (fun _ k => XS.astore X54.here hx rfl (hb hby at_70) rfl rfl (l' := #[vI pi0, vI pi1, vI pi2, vI pi3, vJ pj4, vS, vJ pj5, vS, vI rr, vI nn, vI (1 : Int32), vI (0 : Int32), vI nn, vR b54, vU, vU, vU, vU, vU, vU, vU, vU, vU, vU, vU, vU, vU]) rfl (XS.aload X54.here hx rfl (hb hby at_72) rfl rfl (XS.iconst X54.here hx rfl (hb hby at_74) (XS.iloadN X54.here hx rfl (hb hby at_75) rfl (XS.sipush X54.here hx rfl (hb hby at_76) (XS.iand X54.here hx rfl (hb hby at_79) rfl k)))))) ?_
        refine own_go (T' := T54) (g' := (mkF m 81 #[vI pi0, vI pi1, vI pi2, vI pi3, vJ pj4, vS, vJ pj5, vS, vI rr, vI nn, vI (1 : Int32), vI (0 : Int32), vI nn, vR b54, vU, vU, vU, vU, vU, vU, vU, vU, vU, vU, vU, vU, vU] [(.int (pi3 &&& (255 : Int32))), (.int (0 : Int32)), (.ref b54)])) (fun _ k => XS.i2c X54.here hx rfl (hb hby at_80) rfl (by rw [i2c_mask]; exact k)) ?_
        obtain ⟨cl57, Ar57, qr57, Sr57, Nr57, Hr57, Gr57⟩ := id V54
        obtain ⟨T57, h57, X57, e57, W57, st57⟩ := stC X54 hx hZ e54 Ar57 (j := (0 : Int32)) (inb_of Sr57 ⟨by decide, by decide⟩) (g := (mkF m 81 #[vI pi0, vI pi1, vI pi2, vI pi3, vJ pj4, vS, vJ pj5, vS, vI rr, vI nn, vI (1 : Int32), vI (0 : Int32), vI nn, vR b54, vU, vU, vU, vU, vU, vU, vU, vU, vU, vU, vU, vU, vU] [(.int (pi3 &&& (255 : Int32))), (.int (0 : Int32)), (.ref b54)])) rfl rfl (hb hby at_81)
        have V57 : Arv Z h57 b54 k54 .char (1 : Int32) [(.int (nar .char (pi3 &&& (255 : Int32))))] (.int (0 : Int32)) := Arv.set Ar57 qr57 Sr57 Nr57 Hr57 Gr57 (fits_nar_char _) W57 0 rfl (lb rfl)
        rw [show nar .char (pi3 &&& (255 : Int32)) = (pi3 &&& (255 : Int32)) from (own_nc255 _)] at V57
        have N57 := Fr.snoc X57 N0 g55
        refine own_go (T' := T57) (g' := (mkF m 82 #[vI pi0, vI pi1, vI pi2, vI pi3, vJ pj4, vS, vJ pj5, vS, vI rr, vI nn, vI (1 : Int32), vI (0 : Int32), vI nn, vR b54, vU, vU, vU, vU, vU, vU, vU, vU, vU, vU, vU, vU, vU] [])) st57 ?_
        refine own_go (T' := T57) (g' := (mkF m 95 #[vI pi0, vI pi1, vI pi2, vI pi3, vJ pj4, vS, vJ pj5, vS, vI rr, vI nn, vI (1 : Int32), vI (0 : Int32), vI nn, vR b54, vI ((((pi0.toUInt32 >>> ((1 : Int32) &&& 31).toUInt32).toInt32) &&& (255 : Int32)) + (1 : Int32)), vU, vU, vU, vU, vU, vU, vU, vU, vU, vU, vU, vU] [(.long pj4)])) (fun _ k => XS.iloadN X57.here hx rfl (hb hby at_82) rfl (XS.iconst X57.here hx rfl (hb hby at_83) (XS.iushr X57.here hx rfl (hb hby at_84) rfl (XS.sipush X57.here hx rfl (hb hby at_85) (XS.iand X57.here hx rfl (hb hby at_88) rfl (XS.iconst X57.here hx rfl (hb hby at_89) (XS.iadd X57.here hx rfl (hb hby at_90) rfl (XS.istore X57.here hx rfl (hb hby at_91) rfl (l' := #[vI pi0, vI pi1, vI pi2, vI pi3, vJ pj4, vS, vJ pj5, vS, vI rr, vI nn, vI (1 : Int32), vI (0 : Int32), vI nn, vR b54, vI ((((pi0.toUInt32 >>> ((1 : Int32) &&& 31).toUInt32).toInt32) &&& (255 : Int32)) + (1 : Int32)), vU, vU, vU, vU, vU, vU, vU, vU, vU, vU, vU, vU]) rfl (XS.lload X57.here hx rfl (hb hby at_93) rfl k))))))))) ?_
        refine own_go (T' := T57) (g' := (mkF m 98 #[vI pi0, vI pi1, vI pi2, vI pi3, vJ pj4, vS, vJ pj5, vS, vI rr, vI nn, vI (1 : Int32), vI (0 : Int32), vI nn, vR b54, vI ((((pi0.toUInt32 >>> ((1 : Int32) &&& 31).toUInt32).toInt32) &&& (255 : Int32)) + (1 : Int32)), vU, vU, vU, vU, vU, vU, vU, vU, vU, vU, vU, vU] [(.long (9223372036854775807 : Int64)), (.long pj4)])) (fun t k => X57.ldc2Long hx hown (mvT hZ (own_w hw 2)) (g := (mkF m 95 #[vI pi0, vI pi1, vI pi2, vI pi3, vJ pj4, vS, vJ pj5, vS, vI rr, vI nn, vI (1 : Int32), vI (0 : Int32), vI nn, vR b54, vI ((((pi0.toUInt32 >>> ((1 : Int32) &&& 31).toUInt32).toInt32) &&& (255 : Int32)) + (1 : Int32)), vU, vU, vU, vU, vU, vU, vU, vU, vU, vU, vU, vU] [(.long pj4)])) rfl (hb hby at_95) t k) ?_
        refine own_go (T' := T57) (g' := (mkF m 105 #[vI pi0, vI pi1, vI pi2, vI pi3, vJ pj4, vS, vJ pj5, vS, vI rr, vI nn, vI (1 : Int32), vI (0 : Int32), vI nn, vR b54, vI ((((pi0.toUInt32 >>> ((1 : Int32) &&& 31).toUInt32).toInt32) &&& (255 : Int32)) + (1 : Int32)), vJ (pj4 &&& (9223372036854775807 : Int64)), vS, vU, vU, vU, vU, vU, vU, vU, vU, vU, vU] [(.int ((pi3.toUInt32 >>> ((8 : Int32) &&& 31).toUInt32).toInt32))])) (fun _ k => XS.land X57.here hx rfl (hb hby at_98) rfl (XS.lstore X57.here hx rfl (hb hby at_99) rfl (l' := #[vI pi0, vI pi1, vI pi2, vI pi3, vJ pj4, vS, vJ pj5, vS, vI rr, vI nn, vI (1 : Int32), vI (0 : Int32), vI nn, vR b54, vI ((((pi0.toUInt32 >>> ((1 : Int32) &&& 31).toUInt32).toInt32) &&& (255 : Int32)) + (1 : Int32)), vJ (pj4 &&& (9223372036854775807 : Int64)), vS, vU, vU, vU, vU, vU, vU, vU, vU, vU, vU]) rfl (XS.iloadN X57.here hx rfl (hb hby at_101) rfl (XS.bipush X57.here hx rfl (hb hby at_102) (XS.iushr X57.here hx rfl (hb hby at_104) rfl k))))) ?_
        refine own_go (T' := T57) (g' := (mkF m 107 #[vI pi0, vI pi1, vI pi2, vI pi3, vJ pj4, vS, vJ pj5, vS, vI rr, vI nn, vI (1 : Int32), vI (0 : Int32), vI nn, vR b54, vI ((((pi0.toUInt32 >>> ((1 : Int32) &&& 31).toUInt32).toInt32) &&& (255 : Int32)) + (1 : Int32)), vJ (pj4 &&& (9223372036854775807 : Int64)), vS, vU, vU, vU, vU, vU, vU, vU, vU, vU, vU] [(.int (65535 : Int32)), (.int ((pi3.toUInt32 >>> ((8 : Int32) &&& 31).toUInt32).toInt32))])) (fun t k => X57.ldcInt hx hown (mvT hZ (own_w hw 3)) (g := (mkF m 105 #[vI pi0, vI pi1, vI pi2, vI pi3, vJ pj4, vS, vJ pj5, vS, vI rr, vI nn, vI (1 : Int32), vI (0 : Int32), vI nn, vR b54, vI ((((pi0.toUInt32 >>> ((1 : Int32) &&& 31).toUInt32).toInt32) &&& (255 : Int32)) + (1 : Int32)), vJ (pj4 &&& (9223372036854775807 : Int64)), vS, vU, vU, vU, vU, vU, vU, vU, vU, vU, vU] [(.int ((pi3.toUInt32 >>> ((8 : Int32) &&& 31).toUInt32).toInt32))])) rfl (hb hby at_105) t k) ?_
        refine own_go (T' := T57) (g' := (mkF m 110 #[vI pi0, vI pi1, vI pi2, vI pi3, vJ pj4, vS, vJ pj5, vS, vI rr, vI nn, vI (1 : Int32), vI (0 : Int32), vI nn, vR b54, vI ((((pi0.toUInt32 >>> ((1 : Int32) &&& 31).toUInt32).toInt32) &&& (255 : Int32)) + (1 : Int32)), vJ (pj4 &&& (9223372036854775807 : Int64)), vS, vI (((pi3.toUInt32 >>> ((8 : Int32) &&& 31).toUInt32).toInt32) &&& (65535 : Int32)), vU, vU, vU, vU, vU, vU, vU, vU, vU] [])) (fun _ k => XS.iand X57.here hx rfl (hb hby at_107) rfl (XS.istore X57.here hx rfl (hb hby at_108) rfl (l' := #[vI pi0, vI pi1, vI pi2, vI pi3, vJ pj4, vS, vJ pj5, vS, vI rr, vI nn, vI (1 : Int32), vI (0 : Int32), vI nn, vR b54, vI ((((pi0.toUInt32 >>> ((1 : Int32) &&& 31).toUInt32).toInt32) &&& (255 : Int32)) + (1 : Int32)), vJ (pj4 &&& (9223372036854775807 : Int64)), vS, vI (((pi3.toUInt32 >>> ((8 : Int32) &&& 31).toUInt32).toInt32) &&& (65535 : Int32)), vU, vU, vU, vU, vU, vU, vU, vU, vU]) rfl k)) ?_
        obtain ⟨T58, h58, X58, e58, E58, A58, D58, -, st58⟩ := newO X57 hx hZ hown (own_w hw 4) (own_w hw 5) (own_w hw 6) e57 (g := (mkF m 110 #[vI pi0, vI pi1, vI pi2, vI pi3, vJ pj4, vS, vJ pj5, vS, vI rr, vI nn, vI (1 : Int32), vI (0 : Int32), vI nn, vR b54, vI ((((pi0.toUInt32 >>> ((1 : Int32) &&& 31).toUInt32).toInt32) &&& (255 : Int32)) + (1 : Int32)), vJ (pj4 &&& (9223372036854775807 : Int64)), vS, vI (((pi3.toUInt32 >>> ((8 : Int32) &&& 31).toUInt32).toInt32) &&& (65535 : Int32)), vU, vU, vU, vU, vU, vU, vU, vU, vU] [])) rfl (hb hby at_110) (lb rfl) (lb rfl)
        obtain ⟨b58, gb58⟩ : ∃ z, z = h57.size := ⟨_, rfl⟩
        rw [← gb58] at A58 D58 st58
        have F60 := ((OLD.ext E54).wr W57 g55)
        have g59 : n0 ≤ b58 := Nat.le_trans (own_osz F60) (Nat.le_of_eq gb58.symm)
        have F62 := (Nat.le_trans (Nat.le_trans (Nat.le_refl _) E54.1) (Nat.le_of_eq W57.size.symm))
        have z61 : h0.size ≤ b58 := Nat.le_trans F62 (Nat.le_of_eq gb58.symm)
        refine own_go (T' := T58) (g' := (mkF m 113 #[vI pi0, vI pi1, vI pi2, vI pi3, vJ pj4, vS, vJ pj5, vS, vI rr, vI nn, vI (1 : Int32), vI (0 : Int32), vI nn, vR b54, vI ((((pi0.toUInt32 >>> ((1 : Int32) &&& 31).toUInt32).toInt32) &&& (255 : Int32)) + (1 : Int32)), vJ (pj4 &&& (9223372036854775807 : Int64)), vS, vI (((pi3.toUInt32 >>> ((8 : Int32) &&& 31).toUInt32).toInt32) &&& (65535 : Int32)), vU, vU, vU, vU, vU, vU, vU, vU, vU] [(.ref b58)])) st58 ?_
        refine own_go (T' := T58) (g' := (mkF m 114 #[vI pi0, vI pi1, vI pi2, vI pi3, vJ pj4, vS, vJ pj5, vS, vI rr, vI nn, vI (1 : Int32), vI (0 : Int32), vI nn, vR b54, vI ((((pi0.toUInt32 >>> ((1 : Int32) &&& 31).toUInt32).toInt32) &&& (255 : Int32)) + (1 : Int32)), vJ (pj4 &&& (9223372036854775807 : Int64)), vS, vI (((pi3.toUInt32 >>> ((8 : Int32) &&& 31).toUInt32).toInt32) &&& (65535 : Int32)), vU, vU, vU, vU, vU, vU, vU, vU, vU] [(.ref b58), (.ref b58)])) (fun _ k => XS.dup X58.here hx rfl (hb hby at_113) rfl rfl k) ?_
        obtain ⟨T63, h63, X63, e63, E63, A63, D63, -, st63⟩ := newO X58 hx hZ hown (own_w hw 7) (own_w hw 8) (own_w hw 9) e58 (g := (mkF m 114 #[vI pi0, vI pi1, vI pi2, vI pi3, vJ pj4, vS, vJ pj5, vS, vI rr, vI nn, vI (1 : Int32), vI (0 : Int32), vI nn, vR b54, vI ((((pi0.toUInt32 >>> ((1 : Int32) &&& 31).toUInt32).toInt32) &&& (255 : Int32)) + (1 : Int32)), vJ (pj4 &&& (9223372036854775807 : Int64)), vS, vI (((pi3.toUInt32 >>> ((8 : Int32) &&& 31).toUInt32).toInt32) &&& (65535 : Int32)), vU, vU, vU, vU, vU, vU, vU, vU, vU] [(.ref b58), (.ref b58)])) rfl (hb hby at_114) (lb rfl) (lb rfl)
        obtain ⟨b63, gb63⟩ : ∃ z, z = h58.size := ⟨_, rfl⟩
        rw [← gb63] at A63 D63 st63
        have F65 := (F60.ext E58)
        have g64 : n0 ≤ b63 := Nat.le_trans (own_osz F65) (Nat.le_of_eq gb63.symm)
        have F67 := (Nat.le_trans F62 E58.1)
        have z66 : h0.size ≤ b63 := Nat.le_trans F67 (Nat.le_of_eq gb63.symm)
        refine own_go (T' := T63) (g' := (mkF m 117 #[vI pi0, vI pi1, vI pi2, vI pi3, vJ pj4, vS, vJ pj5, vS, vI rr, vI nn, vI (1 : Int32), vI (0 : Int32), vI nn, vR b54, vI ((((pi0.toUInt32 >>> ((1 : Int32) &&& 31).toUInt32).toInt32) &&& (255 : Int32)) + (1 : Int32)), vJ (pj4 &&& (9223372036854775807 : Int64)), vS, vI (((pi3.toUInt32 >>> ((8 : Int32) &&& 31).toUInt32).toInt32) &&& (65535 : Int32)), vU, vU, vU, vU, vU, vU, vU, vU, vU] [(.ref b63), (.ref b58), (.ref b58)])) st63 ?_
        refine own_go (T' := T63) (g' := (mkF m 120 #[vI pi0, vI pi1, vI pi2, vI pi3, vJ pj4, vS, vJ pj5, vS, vI rr, vI nn, vI (1 : Int32), vI (0 : Int32), vI nn, vR b54, vI ((((pi0.toUInt32 >>> ((1 : Int32) &&& 31).toUInt32).toInt32) &&& (255 : Int32)) + (1 : Int32)), vJ (pj4 &&& (9223372036854775807 : Int64)), vS, vI (((pi3.toUInt32 >>> ((8 : Int32) &&& 31).toUInt32).toInt32) &&& (65535 : Int32)), vU, vU, vU, vU, vU, vU, vU, vU, vU] [(.ref b54), (.ref b63), (.ref b63), (.ref b58), (.ref b58)])) (fun _ k => XS.dup X63.here hx rfl (hb hby at_117) rfl rfl (XS.aload X63.here hx rfl (hb hby at_118) rfl rfl k)) ?_
        have F68 := ((V57.ext E58).ext E63)
        have hp69 : ∀ c ∈ ([(pi3 &&& (255 : Int32))] : List Int32), ¬ c < 0 ∧ ¬ (255 : Int32) < c := by
          intro c hc
          simp only [List.mem_cons, List.not_mem_nil, or_false] at hc
          rcases hc with rfl
          · exact (own_m255 _)
        have F70 := (F65.ext E63)
        obtain ⟨_, _, ⟨T71, L71, k71, n71⟩, -, X71, ⟨Lc71, hQ71, l71, y71, z71⟩, st71⟩ := X63.specialBack hx (y := y0) rfl hown (mvT hZ (own_w hw 10)) (mvT hZ (own_w hw 11)) (mvT hZ (own_w hw 12)) (by decide) (StrChars.Road.backV (W := 3) hZ (own_hws hw) (kI := 4) (own_w hw 8) (cs := ([(pi3 &&& (255 : Int32))] : List Int32)) (bs := (([(pi3 &&& (255 : Int32))] : List Int32).map (fun c => c.toInt8.toInt32))) (n := 1) g64 (own_osz F70) A63 (D63 (Or.inr (own_w hw 35)) (ty := (.array .byte)) (by decide)) (D63 (Or.inr (own_w hw 33)) (ty := .byte) (by decide)) F68 (O2.ext F70.2) P5 rfl rfl (by decide) (by decide) hp69 rfl (lb rfl) (lb rfl)) (g := (mkF m 120 #[vI pi0, vI pi1, vI pi2, vI pi3, vJ pj4, vS, vJ pj5, vS, vI rr, vI nn, vI (1 : Int32), vI (0 : Int32), vI nn, vR b54, vI ((((pi0.toUInt32 >>> ((1 : Int32) &&& 31).toUInt32).toInt32) &&& (255 : Int32)) + (1 : Int32)), vJ (pj4 &&& (9223372036854775807 : Int64)), vS, vI (((pi3.toUInt32 >>> ((8 : Int32) &&& 31).toUInt32).toInt32) &&& (65535 : Int32)), vU, vU, vU, vU, vU, vU, vU, vU, vU] [(.ref b54), (.ref b63), (.ref b63), (.ref b58), (.ref b58)])) rfl (by rw [hml]; rfl) (Steps.refl _) (a := b63) (argsL := [(.ref b54)]) (rest := [(.ref b63), (.ref b58), (.ref b58)]) (lenOf pd_0 rfl) rfl (lb rfl) (hb hby at_120) (fun _ _ => ⟨rfl, e63, (lb rfl), (lb rfl)⟩)
        dsimp only [Pt.U, Pt.locs, Pt.cells, Pt.slots] at X71 l71 y71 z71 st71 hQ71
        subst l71 y71 z71
        obtain ⟨rfl, Nq71, K71, Ex71, Fc71, t71, kb71, -, lo71, -, Fv71, Av71⟩ := hQ71
        have N71 := Fr.app N57 Nq71
        have g72 : n0 ≤ t71 := Nat.le_trans (own_osz F70) lo71
        have F74 := (Nat.le_trans F67 E63.1)
        have z73 : h0.size ≤ t71 := Nat.le_trans F74 lo71
        refine own_to (T' := T71) (g' := (mkF m 123 #[vI pi0, vI pi1, vI pi2, vI pi3, vJ pj4, vS, vJ pj5, vS, vI rr, vI nn, vI (1 : Int32), vI (0 : Int32), vI nn, vR b54, vI ((((pi0.toUInt32 >>> ((1 : Int32) &&& 31).toUInt32).toInt32) &&& (255 : Int32)) + (1 : Int32)), vJ (pj4 &&& (9223372036854775807 : Int64)), vS, vI (((pi3.toUInt32 >>> ((8 : Int32) &&& 31).toUInt32).toInt32) &&& (65535 : Int32)), vU, vU, vU, vU, vU, vU, vU, vU, vU] [(.ref b63), (.ref b58), (.ref b58)])) st71 ?_
        refine own_go (T' := T71) (g' := (mkF m 138 #[vI pi0, vI pi1, vI pi2, vI pi3, vJ pj4, vS, vJ pj5, vS, vI rr, vI nn, vI (1 : Int32), vI (0 : Int32), vI nn, vR b54, vI ((((pi0.toUInt32 >>> ((1 : Int32) &&& 31).toUInt32).toInt32) &&& (255 : Int32)) + (1 : Int32)), vJ (pj4 &&& (9223372036854775807 : Int64)), vS, vI (((pi3.toUInt32 >>> ((8 : Int32) &&& 31).toUInt32).toInt32) &&& (65535 : Int32)), vU, vU, vU, vU, vU, vU, vU, vU, vU] [(.long pj5), (.int (((pi3.toUInt32 >>> ((8 : Int32) &&& 31).toUInt32).toInt32) &&& (65535 : Int32))), (.int nn), (.int (0 : Int32)), (.int rr), (.int (0 : Int32)), (.long (pj4 &&& (9223372036854775807 : Int64))), (.int ((((pi0.toUInt32 >>> ((1 : Int32) &&& 31).toUInt32).toInt32) &&& (255 : Int32)) + (1 : Int32))), (.ref b63), (.ref b58), (.ref b58)])) (fun _ k => XS.iload X71.here hx rfl (hb hby at_123) rfl (XS.lload X71.here hx rfl (hb hby at_125) rfl (XS.iconst X71.here hx rfl (hb hby at_127) (XS.iload X71.here hx rfl (hb hby at_128) rfl (XS.iload X71.here hx rfl (hb hby at_130) rfl (XS.iload X71.here hx rfl (hb hby at_132) rfl (XS.iload X71.here hx rfl (hb hby at_134) rfl (XS.lload X71.here hx rfl (hb hby at_136) rfl k)))))))) ?_
        have F75 := ((A58.ext E63).keep K71)
        have F76 := (((D58 (Or.inr (own_w hw 46)) (ty := (.object "java/lang/String")) (by decide)).ext E63).keep K71 (ninS (own_ne_lo A58.lt (Nat.le_of_eq gb63.symm)) nin0))
        have F77 := (((D58 (Or.inr (own_w hw 48)) (ty := .int) (by decide)).ext E63).keep K71 (ninS (own_ne_lo A58.lt (Nat.le_of_eq gb63.symm)) nin0))
        have F78 := (((D58 (Or.inr (own_w hw 50)) (ty := .long) (by decide)).ext E63).keep K71 (ninS (own_ne_lo A58.lt (Nat.le_of_eq gb63.symm)) nin0))
        have F79 := (((D58 (Or.inr (own_w hw 52)) (ty := .int) (by decide)).ext E63).keep K71 (ninS (own_ne_lo A58.lt (Nat.le_of_eq gb63.symm)) nin0))
        have F80 := (((D58 (Or.inr (own_w hw 54)) (ty := .int) (by decide)).ext E63).keep K71 (ninS (own_ne_lo A58.lt (Nat.le_of_eq gb63.symm)) nin0))
        have F81 := (((D58 (Or.inr (own_w hw 56)) (ty := .int) (by decide)).ext E63).keep K71 (ninS (own_ne_lo A58.lt (Nat.le_of_eq gb63.symm)) nin0))
        have F82 := (((D58 (Or.inr (own_w hw 58)) (ty := .int) (by decide)).ext E63).keep K71 (ninS (own_ne_lo A58.lt (Nat.le_of_eq gb63.symm)) nin0))
        have F83 := (((D58 (Or.inr (own_w hw 60)) (ty := .int) (by decide)).ext E63).keep K71 (ninS (own_ne_lo A58.lt (Nat.le_of_eq gb63.symm)) nin0))
        have F84 := (((D58 (Or.inr (own_w hw 62)) (ty := .long) (by decide)).ext E63).keep K71 (ninS (own_ne_lo A58.lt (Nat.le_of_eq gb63.symm)) nin0))
        have F85 := (F70.keep K71 (allS g64 all0))
        obtain ⟨_, _, ⟨T86, L86, k86, n86⟩, -, X86, ⟨Lc86, hQ86, l86, y86, z86⟩, st86⟩ := X71.specialBack hx (y := y2) rfl hown (mvT hZ (own_w hw 36)) (mvT hZ (own_w hw 37)) (mvT hZ (own_w hw 38)) (by decide) (backOf (W := 1) (rm7_2 l Z a0 hw b58 b63 (((((pi0.toUInt32 >>> ((1 : Int32) &&& 31).toUInt32).toInt32) &&& (255 : Int32)) + (1 : Int32))) ((pj4 &&& (9223372036854775807 : Int64))) ((0 : Int32)) rr ((0 : Int32)) nn ((((pi3.toUInt32 >>> ((8 : Int32) &&& 31).toUInt32).toInt32) &&& (65535 : Int32))) pj5 (.null) ((.int (0 : Int32))) ((.long (0 : Int64))) ((.int (0 : Int32))) ((.int (0 : Int32))) ((.int (0 : Int32))) ((.int (0 : Int32))) ((.int (0 : Int32))) ((.long (0 : Int64))) T71.heap n0 F85 F75 F76 g59 F77 F78 F79 F80 F81 F82 F83 F84) hZ (own_w hw 38) (own_w hw 6) (lb rfl) (lb rfl)) (g := (mkF m 138 #[vI pi0, vI pi1, vI pi2, vI pi3, vJ pj4, vS, vJ pj5, vS, vI rr, vI nn, vI (1 : Int32), vI (0 : Int32), vI nn, vR b54, vI ((((pi0.toUInt32 >>> ((1 : Int32) &&& 31).toUInt32).toInt32) &&& (255 : Int32)) + (1 : Int32)), vJ (pj4 &&& (9223372036854775807 : Int64)), vS, vI (((pi3.toUInt32 >>> ((8 : Int32) &&& 31).toUInt32).toInt32) &&& (65535 : Int32)), vU, vU, vU, vU, vU, vU, vU, vU, vU] [(.long pj5), (.int (((pi3.toUInt32 >>> ((8 : Int32) &&& 31).toUInt32).toInt32) &&& (65535 : Int32))), (.int nn), (.int (0 : Int32)), (.int rr), (.int (0 : Int32)), (.long (pj4 &&& (9223372036854775807 : Int64))), (.int ((((pi0.toUInt32 >>> ((1 : Int32) &&& 31).toUInt32).toInt32) &&& (255 : Int32)) + (1 : Int32))), (.ref b63), (.ref b58), (.ref b58)])) rfl (by rw [hml]; rfl) (Steps.refl _) (a := b58) (argsL := [(.ref b63), (.int ((((pi0.toUInt32 >>> ((1 : Int32) &&& 31).toUInt32).toInt32) &&& (255 : Int32)) + (1 : Int32))), (.long (pj4 &&& (9223372036854775807 : Int64))), (.int (0 : Int32)), (.int rr), (.int (0 : Int32)), (.int nn), (.int (((pi3.toUInt32 >>> ((8 : Int32) &&& 31).toUInt32).toInt32) &&& (65535 : Int32))), (.long pj5)]) (rest := [(.ref b58)]) (lenOf pd_2 rfl) rfl (lb rfl) (hb hby at_138) (fun _ _ => ⟨rfl, rfl, (lb rfl), (lb rfl)⟩)
        dsimp only [Pt.U, Pt.locs, Pt.cells, Pt.slots] at X86 l86 y86 z86 st86 hQ86
        subst l86 y86 z86
        obtain ⟨rfl, Nq86, K86, f87, f88, f89, f90, f91, f92, f93, f94, f95⟩ := hQ86
        have N86 := Fr.app N71 Nq86
        refine own_to (T' := T86) (g' := (mkF m 141 #[vI pi0, vI pi1, vI pi2, vI pi3, vJ pj4, vS, vJ pj5, vS, vI rr, vI nn, vI (1 : Int32), vI (0 : Int32), vI nn, vR b54, vI ((((pi0.toUInt32 >>> ((1 : Int32) &&& 31).toUInt32).toInt32) &&& (255 : Int32)) + (1 : Int32)), vJ (pj4 &&& (9223372036854775807 : Int64)), vS, vI (((pi3.toUInt32 >>> ((8 : Int32) &&& 31).toUInt32).toInt32) &&& (65535 : Int32)), vU, vU, vU, vU, vU, vU, vU, vU, vU] [(.ref b58)])) st86 ?_
        refine own_go (T' := T86) (g' := (mkF m 145 #[vI pi0, vI pi1, vI pi2, vI pi3, vJ pj4, vS, vJ pj5, vS, vI rr, vI nn, vI (1 : Int32), vI (0 : Int32), vI nn, vR b54, vI ((((pi0.toUInt32 >>> ((1 : Int32) &&& 31).toUInt32).toInt32) &&& (255 : Int32)) + (1 : Int32)), vJ (pj4 &&& (9223372036854775807 : Int64)), vS, vI (((pi3.toUInt32 >>> ((8 : Int32) &&& 31).toUInt32).toInt32) &&& (65535 : Int32)), vR b58, vU, vU, vU, vU, vU, vU, vU, vU] [(.ref b58)])) (fun _ k => XS.astore X86.here hx rfl (hb hby at_141) rfl rfl (l' := #[vI pi0, vI pi1, vI pi2, vI pi3, vJ pj4, vS, vJ pj5, vS, vI rr, vI nn, vI (1 : Int32), vI (0 : Int32), vI nn, vR b54, vI ((((pi0.toUInt32 >>> ((1 : Int32) &&& 31).toUInt32).toInt32) &&& (255 : Int32)) + (1 : Int32)), vJ (pj4 &&& (9223372036854775807 : Int64)), vS, vI (((pi3.toUInt32 >>> ((8 : Int32) &&& 31).toUInt32).toInt32) &&& (65535 : Int32)), vR b58, vU, vU, vU, vU, vU, vU, vU, vU]) rfl (XS.aload X86.here hx rfl (hb hby at_143) rfl rfl k)) ?_
        have F96 := (F85.keep K86 (allS g59 all0))
        have F98 := (F75.keep K86)
        obtain ⟨cq97, kq97, q97a, q97b, q97c⟩ := isOf hZ rfl F98
        obtain ⟨_, _, ⟨T97, L97, k97, n97⟩, -, X97, ⟨Lc97, hQ97, l97, y97, z97⟩, st97⟩ := X86.virtualBack hx (y := y3) (z := y3) hown (mvT hZ (own_w hw 63)) (mvT hZ (own_w hw 64)) (notFace_of_selects (args := #[]) (mvT hZ (own_w hw 66))) (mvT hZ (own_w hw 66)) (mvT hZ (own_w hw 65)) (by decide) (backOf (W := 0) (rm9_4 l Z a0 hw b58 nn rr ((0 : Int32)) T86.heap n0 F96 f93 f91 f92) hZ (own_w hw 67) (own_w hw 6) (lb rfl) (lb rfl)) q97a q97c (g := (mkF m 145 #[vI pi0, vI pi1, vI pi2, vI pi3, vJ pj4, vS, vJ pj5, vS, vI rr, vI nn, vI (1 : Int32), vI (0 : Int32), vI nn, vR b54, vI ((((pi0.toUInt32 >>> ((1 : Int32) &&& 31).toUInt32).toInt32) &&& (255 : Int32)) + (1 : Int32)), vJ (pj4 &&& (9223372036854775807 : Int64)), vS, vI (((pi3.toUInt32 >>> ((8 : Int32) &&& 31).toUInt32).toInt32) &&& (65535 : Int32)), vR b58, vU, vU, vU, vU, vU, vU, vU, vU] [(.ref b58)])) rfl (by rw [hml]; rfl) (Steps.refl _) (argsL := []) (rest := []) (lenOf pd_3 rfl) rfl (lb rfl) (hb hby at_145) (fun _ _ => ⟨rfl, rfl, (lb rfl), (lb rfl)⟩)
        dsimp only [Pt.U, Pt.locs, Pt.cells, Pt.slots] at X97 l97 y97 z97 st97 hQ97
        subst l97 y97 z97
        rcases hQ97 with hQ97 | hQ97
        · obtain ⟨hc99, rfl, Nq97, eq97⟩ := hQ97
          have N97 := Fr.app N86 Nq97
          refine own_to (T' := T97) (g' := (mkF m 148 #[vI pi0, vI pi1, vI pi2, vI pi3, vJ pj4, vS, vJ pj5, vS, vI rr, vI nn, vI (1 : Int32), vI (0 : Int32), vI nn, vR b54, vI ((((pi0.toUInt32 >>> ((1 : Int32) &&& 31).toUInt32).toInt32) &&& (255 : Int32)) + (1 : Int32)), vJ (pj4 &&& (9223372036854775807 : Int64)), vS, vI (((pi3.toUInt32 >>> ((8 : Int32) &&& 31).toUInt32).toInt32) &&& (65535 : Int32)), vR b58, vU, vU, vU, vU, vU, vU, vU, vU] [(.long (nn.toInt64))])) st97 ?_
          refine own_go (T' := T97) (g' := (mkF m 185 #[vI pi0, vI pi1, vI pi2, vI pi3, vJ pj4, vS, vJ pj5, vS, vI rr, vI nn, vI (1 : Int32), vI (0 : Int32), vI nn, vR b54, vI ((((pi0.toUInt32 >>> ((1 : Int32) &&& 31).toUInt32).toInt32) &&& (255 : Int32)) + (1 : Int32)), vJ (pj4 &&& (9223372036854775807 : Int64)), vS, vI (((pi3.toUInt32 >>> ((8 : Int32) &&& 31).toUInt32).toInt32) &&& (65535 : Int32)), vR b58, vJ (nn.toInt64), vS, vJ (nn.toInt64), vS, vU, vU, vU, vU] [(.int (lcmpW (nn.toInt64) (nn.toInt64)))])) (fun _ k => XS.lstore X97.here hx rfl (hb hby at_148) rfl (l' := #[vI pi0, vI pi1, vI pi2, vI pi3, vJ pj4, vS, vJ pj5, vS, vI rr, vI nn, vI (1 : Int32), vI (0 : Int32), vI nn, vR b54, vI ((((pi0.toUInt32 >>> ((1 : Int32) &&& 31).toUInt32).toInt32) &&& (255 : Int32)) + (1 : Int32)), vJ (pj4 &&& (9223372036854775807 : Int64)), vS, vI (((pi3.toUInt32 >>> ((8 : Int32) &&& 31).toUInt32).toInt32) &&& (65535 : Int32)), vR b58, vJ (nn.toInt64), vS, vU, vU, vU, vU, vU, vU]) rfl (XS.iload X97.here hx rfl (hb hby at_150) rfl (XS.ifNo X97.here hx rfl (hb hby at_152) rfl ((if0 _ _).trans (feq (by decide : ¬ ((1 : Int32) = (0 : Int32)))).1) (XS.iload X97.here hx rfl (hb hby at_155) rfl (XS.i2l X97.here hx rfl (hb hby at_157) rfl (XS.lstore X97.here hx rfl (hb hby at_158) rfl (l' := #[vI pi0, vI pi1, vI pi2, vI pi3, vJ pj4, vS, vJ pj5, vS, vI rr, vI nn, vI (1 : Int32), vI (0 : Int32), vI nn, vR b54, vI ((((pi0.toUInt32 >>> ((1 : Int32) &&& 31).toUInt32).toInt32) &&& (255 : Int32)) + (1 : Int32)), vJ (pj4 &&& (9223372036854775807 : Int64)), vS, vI (((pi3.toUInt32 >>> ((8 : Int32) &&& 31).toUInt32).toInt32) &&& (65535 : Int32)), vR b58, vJ (nn.toInt64), vS, vJ (nn.toInt64), vS, vU, vU, vU, vU]) rfl (XS.goto X97.here hx rfl (pc0 := 160) (pc' := 180) rfl (hb hby at_160) (by decide) (by decide) (XS.lload X97.here hx rfl (hb hby at_180) rfl (XS.lload X97.here hx rfl (hb hby at_182) rfl (XS.lcmp X97.here hx rfl (hb hby at_184) rfl k)))))))))) ?_
          refine own_go (T' := T97) (g' := (mkF m 192 #[vI pi0, vI pi1, vI pi2, vI pi3, vJ pj4, vS, vJ pj5, vS, vI rr, vI nn, vI (1 : Int32), vI (0 : Int32), vI nn, vR b54, vI ((((pi0.toUInt32 >>> ((1 : Int32) &&& 31).toUInt32).toInt32) &&& (255 : Int32)) + (1 : Int32)), vJ (pj4 &&& (9223372036854775807 : Int64)), vS, vI (((pi3.toUInt32 >>> ((8 : Int32) &&& 31).toUInt32).toInt32) &&& (65535 : Int32)), vR b58, vJ (nn.toInt64), vS, vJ (nn.toInt64), vS, vU, vU, vU, vU] [(.int (lcmpW (nn.toInt64) (1 : Int64)))])) (fun _ k => XS.ifNo X97.here hx rfl (hb hby at_185) rfl ((if0 _ _).trans (teq (own_lcmp_self _)).2) (XS.lload X97.here hx rfl (hb hby at_188) rfl (XS.lconst X97.here hx rfl (hb hby at_190) (XS.lcmp X97.here hx rfl (hb hby at_191) rfl k)))) ?_
          refine own_go (T' := T97) (g' := (mkF m 197 #[vI pi0, vI pi1, vI pi2, vI pi3, vJ pj4, vS, vJ pj5, vS, vI rr, vI nn, vI (1 : Int32), vI (0 : Int32), vI nn, vR b54, vI ((((pi0.toUInt32 >>> ((1 : Int32) &&& 31).toUInt32).toInt32) &&& (255 : Int32)) + (1 : Int32)), vJ (pj4 &&& (9223372036854775807 : Int64)), vS, vI (((pi3.toUInt32 >>> ((8 : Int32) &&& 31).toUInt32).toInt32) &&& (65535 : Int32)), vR b58, vJ (nn.toInt64), vS, vJ (nn.toInt64), vS, vU, vU, vU, vU] [(.ref b58)])) (fun _ k => XS.ifNo X97.here hx rfl (hb hby at_192) rfl ((if0 _ _).trans (flt (own_ge1 (by first | exact own_wide hc99 | exact own_mul hv2 hc99))).1) (XS.aload X97.here hx rfl (hb hby at_195) rfl rfl k)) ?_
          obtain ⟨cq100, kq100, q100a, q100b, q100c⟩ := isOf hZ eq97 F98
          obtain ⟨_, _, ⟨T100, L100, k100, n100⟩, -, X100, ⟨Lc100, hQ100, l100, y100, z100⟩, st100⟩ := X97.virtualBack hx (y := y4) (z := y4) hown (mvT hZ (own_w hw 68)) (mvT hZ (own_w hw 69)) (notFace_of_selects (args := #[]) (mvT hZ (own_w hw 71))) (mvT hZ (own_w hw 71)) (mvT hZ (own_w hw 70)) (by decide) (backOf (W := 0) (rm10_5 l Z a0 hw b58 rr T86.heap n0 F96 f91) hZ (own_w hw 72) (own_w hw 6) (lb rfl) (lb rfl)) q100a q100c (g := (mkF m 197 #[vI pi0, vI pi1, vI pi2, vI pi3, vJ pj4, vS, vJ pj5, vS, vI rr, vI nn, vI (1 : Int32), vI (0 : Int32), vI nn, vR b54, vI ((((pi0.toUInt32 >>> ((1 : Int32) &&& 31).toUInt32).toInt32) &&& (255 : Int32)) + (1 : Int32)), vJ (pj4 &&& (9223372036854775807 : Int64)), vS, vI (((pi3.toUInt32 >>> ((8 : Int32) &&& 31).toUInt32).toInt32) &&& (65535 : Int32)), vR b58, vJ (nn.toInt64), vS, vJ (nn.toInt64), vS, vU, vU, vU, vU] [(.ref b58)])) rfl (by rw [hml]; rfl) (Steps.refl _) (argsL := []) (rest := []) (lenOf pd_4 rfl) rfl (lb rfl) (hb hby at_197) (fun _ _ => ⟨rfl, eq97, (lb rfl), (lb rfl)⟩)
          dsimp only [Pt.U, Pt.locs, Pt.cells, Pt.slots] at X100 l100 y100 z100 st100 hQ100
          subst l100 y100 z100
          rcases hQ100 with hQ100 | hQ100
          · obtain ⟨hc101, rfl, Nq100, eq100⟩ := hQ100
            have N100 := Fr.app N97 Nq100
            refine own_to (T' := T100) (g' := (mkF m 200 #[vI pi0, vI pi1, vI pi2, vI pi3, vJ pj4, vS, vJ pj5, vS, vI rr, vI nn, vI (1 : Int32), vI (0 : Int32), vI nn, vR b54, vI ((((pi0.toUInt32 >>> ((1 : Int32) &&& 31).toUInt32).toInt32) &&& (255 : Int32)) + (1 : Int32)), vJ (pj4 &&& (9223372036854775807 : Int64)), vS, vI (((pi3.toUInt32 >>> ((8 : Int32) &&& 31).toUInt32).toInt32) &&& (65535 : Int32)), vR b58, vJ (nn.toInt64), vS, vJ (nn.toInt64), vS, vU, vU, vU, vU] [(.int (1 : Int32))])) st100 ?_
            refine own_go (T' := T100) (g' := (mkF m 208 #[vI pi0, vI pi1, vI pi2, vI pi3, vJ pj4, vS, vJ pj5, vS, vI rr, vI nn, vI (1 : Int32), vI (0 : Int32), vI nn, vR b54, vI ((((pi0.toUInt32 >>> ((1 : Int32) &&& 31).toUInt32).toInt32) &&& (255 : Int32)) + (1 : Int32)), vJ (pj4 &&& (9223372036854775807 : Int64)), vS, vI (((pi3.toUInt32 >>> ((8 : Int32) &&& 31).toUInt32).toInt32) &&& (65535 : Int32)), vR b58, vJ (nn.toInt64), vS, vJ (nn.toInt64), vS, vU, vU, vU, vU] [(.int (1 : Int32))])) (fun _ k => XS.ifNo X100.here hx rfl (hb hby at_200) rfl ((if0 _ _).trans (feq (by decide : ¬ ((1 : Int32) = (0 : Int32)))).1) (XS.iconst X100.here hx rfl (hb hby at_203) (XS.goto X100.here hx rfl (pc0 := 204) (pc' := 208) rfl (hb hby at_204) (by decide) (by decide) k))) ?_
            exact own_leaveN X100 hlk (v := some (.int (nar .boolean (1 : Int32)))) (fun h => by rw [hret] at h; cases h) (lb rfl) (lb rfl) (by rw [eq100]; exact ⟨rfl, N100⟩) (fun fs hr => retN X100 hx (t := .boolean) hret (by simp) (hb hby at_208) hr)
          · exfalso
            obtain ⟨hd0, -⟩ := hQ100
            exact absurd hd0 (fun q => q hv2)
        · exfalso
          obtain ⟨hd0, -⟩ := hQ97
          exact absurd hd0 (fun q => q hv4)
    by_cases hc102 : (pi2 &&& (2147483647 : Int32)) = (0 : Int32)
    · refine own_go (T' := s₁) (g' := (mkF m 28 #[vI pi0, vI pi1, vI pi2, vI pi3, vJ pj4, vS, vJ pj5, vS, vI rr, vI (1 : Int32), vU, vU, vU, vU, vU, vU, vU, vU, vU, vU, vU, vU, vU, vU, vU, vU, vU] [])) (fun _ k => XS.ifNo X0.here hx rfl (hb hby at_22) rfl ((if0 _ _).trans (teq hc102).2) (XS.iconst X0.here hx rfl (hb hby at_25) (XS.istore X0.here hx rfl (hb hby at_26) rfl (l' := #[vI pi0, vI pi1, vI pi2, vI pi3, vJ pj4, vS, vJ pj5, vS, vI rr, vI (1 : Int32), vU, vU, vU, vU, vU, vU, vU, vU, vU, vU, vU, vU, vU, vU, vU, vU, vU]) rfl k))) ?_
      exact J3 _ (by decide)
    · refine own_go (T' := s₁) (g' := (mkF m 28 #[vI pi0, vI pi1, vI pi2, vI pi3, vJ pj4, vS, vJ pj5, vS, vI rr, vI (pi2 &&& (2147483647 : Int32)), vU, vU, vU, vU, vU, vU, vU, vU, vU, vU, vU, vU, vU, vU, vU, vU, vU] [])) (fun _ k => XS.ifYes X0.here hx rfl (pc0 := 22) (pc' := 28) rfl (hb hby at_22) rfl ((if0 _ _).trans (feq hc102).2) (by decide) (by decide) k) ?_
      exact J3 _ (own_pos _ hc102)
  by_cases hc103 : (pi1 &&& (2147483647 : Int32)) = (0 : Int32)
  · refine own_go (T' := s₁) (g' := (mkF m 14 #[vI pi0, vI pi1, vI pi2, vI pi3, vJ pj4, vS, vJ pj5, vS, vI (1 : Int32), vU, vU, vU, vU, vU, vU, vU, vU, vU, vU, vU, vU, vU, vU, vU, vU, vU, vU] [])) (fun _ k => XS.ifNo X0.here hx rfl (hb hby at_8) rfl ((if0 _ _).trans (teq hc103).2) (XS.iconst X0.here hx rfl (hb hby at_11) (XS.istore X0.here hx rfl (hb hby at_12) rfl (l' := #[vI pi0, vI pi1, vI pi2, vI pi3, vJ pj4, vS, vJ pj5, vS, vI (1 : Int32), vU, vU, vU, vU, vU, vU, vU, vU, vU, vU, vU, vU, vU, vU, vU, vU, vU, vU]) rfl k))) ?_
    exact J1 _ (by decide)
  · refine own_go (T' := s₁) (g' := (mkF m 14 #[vI pi0, vI pi1, vI pi2, vI pi3, vJ pj4, vS, vJ pj5, vS, vI (pi1 &&& (2147483647 : Int32)), vU, vU, vU, vU, vU, vU, vU, vU, vU, vU, vU, vU, vU, vU, vU, vU, vU, vU] [])) (fun _ k => XS.ifYes X0.here hx rfl (pc0 := 8) (pc' := 14) rfl (hb hby at_8) rfl ((if0 _ _).trans (feq hc103).2) (by decide) (by decide) k) ?_
    exact J1 _ (own_pos _ hc103)
set_option maxRecDepth 65536 in
set_option maxHeartbeats 40000000 in
theorem comes_1 {Post : Tables → Env → Array Value → State → Outcome → State → Prop} (hpost : ∀ tb e args s v u, (limb_1_1.after args s (.returned v) u = true ∧ limb_1_2.after args s (.returned v) u = true ∧ True) → FrameEnd s (.returned v) u (Jvm.fieldLocs frame_1_writes args s ++ Jvm.arrayLocs frame_1_arrays args s ++ Jvm.staticLocs frame_1_statics s) 16 128 → Post tb e args s (.returned v) u) :
    ArmFor flags0 classFile x code maxLocals ret World_1 tables_1 room_1 Calls_1 rest_1 Pre_1 Post := by
  intro l hfl _ _ p e ha hc hk s m args below hf hA hF happ hP
  obtain ⟨hcalls, hrest, hpre⟩ := hP
  obtain ⟨-, -, -, hnamed, -, -, -, hat⟩ := (Spec.applies_iff hf).mp happ
  obtain ⟨hg, hn⟩ := and_e (Cond.before_iff.mp (show (Jvm.Cond.and given_1 narrow_1).before args s = true from hpre))
  obtain ⟨gv0, gr0⟩ := and_e hg
  obtain ⟨gv1, gr1⟩ := and_e gr0
  obtain ⟨gv2, gr2⟩ := and_e gr1
  obtain ⟨gv3, gr3⟩ := and_e gr2
  obtain ⟨gv4, gr4⟩ := and_e gr3
  obtain ⟨gv5, gv6⟩ := and_e gr4
  obtain ⟨w0, w1, w2, w3, w4, w5, rfl⟩ : ∃ w0 w1 w2 w3 w4 w5 : Value, args = #[w0, w1, w2, w3, w4, w5] := by
    have hs : args.size = 6 := by simpa [Cond.value, given_1] using gv0
    obtain ⟨L⟩ := args
    match L, hs with
    | [w0, w1, w2, w3, w4, w5], _ => exact ⟨w0, w1, w2, w3, w4, w5, rfl⟩
  have hw := fun d (hd : d ∈ tables_1) => atoms_spec (ws := Jvm.Cond.code x code maxLocals ret :: tables_1) hat d (List.mem_cons_of_mem _ hd)
  have hfit : Fit s := fun {y c} hc i hi => by
    obtain ⟨ha, rfl⟩ := Array.getElem?_eq_some_iff.mp hc
    have q := List.all_eq_true.mp ((Array.all_eq_true_iff_forall_mem.mp hF) _ (Array.getElem_mem ha)) i (List.mem_range.mpr hi)
    simpa [Array.getElem?_eq_getElem hi] using q
  obtain ⟨hsets, hown0⟩ := atoms_of _ (rest_1_c_eq ▸ (show rest_1_c.before _ s = true from hrest))
  obtain ⟨i0, ei0⟩ := is_v gv1
  obtain rfl : w0 = (.int i0) := Option.some.inj ei0
  obtain ⟨i1, ei1⟩ := is_v gv2
  obtain rfl : w1 = (.int i1) := Option.some.inj ei1
  obtain ⟨i2, ei2⟩ := is_v gv3
  obtain rfl : w2 = (.int i2) := Option.some.inj ei2
  obtain ⟨i3, ei3⟩ := is_v gv4
  obtain rfl : w3 = (.int i3) := Option.some.inj ei3
  obtain ⟨i4, ei4⟩ := isL_v gv5
  obtain rfl : w4 = (.long i4) := Option.some.inj ei4
  obtain ⟨i5, ei5⟩ := isL_v gv6
  obtain rfl : w5 = (.long i5) := Option.some.inj ei5
  have n5 := not_v (Cond.before_iff.mp (hsets _ (List.mem_of_getElem? (i := 2) rfl)))
  obtain ⟨G1, eG1⟩ := is_v (Cond.before_iff.mp (hsets _ (List.mem_of_getElem? (i := 1) rfl)))
  have O2 : Sta s s.heap "java/lang/String" "COMPACT_STRINGS" "Z" (.int G1) := Sta.start eG1 (Or.inl (hsets _ (List.mem_of_getElem? (i := 0) rfl)))
  have P5 : ¬ (G1 = (0 : Int32)) := gotF (Cond.eq_ints eG1 (Term.int_eval (0))) n5
  obtain ⟨G3, eG3, rG3⟩ := isR_v (Cond.before_iff.mp (hsets _ (List.mem_of_getElem? (i := 8) rfl)))
  have O4 : Sta s s.heap "jdk/internal/util/Preconditions" "SIOOBE_FORMATTER" "Ljava/util/function/BiFunction;" G3 := Sta.start eG3 (Or.inl (hsets _ (List.mem_of_getElem? (i := 7) rfl)))
  obtain ⟨n, o, h1, h2, h3, _, L, rfl, ⟨rfl, N⟩, hq⟩ := rmlaw l s _ hw i0 i1 i2 i3 i4 i5 G1 s.heap s.heap.size (Old.start s) O2 P5 p e ha hc hk s m _ below hf ((Spec.applies_iff_loose hf).mp happ).1 ⟨rfl, State.Warmed39.refl s, rfl⟩ trivial
  refine ⟨n, _, h1, h2, h3, hpost _ _ _ _ _ _ ⟨Cond.after_iff.mpr rfl, Cond.after_iff.mpr (eq_i res_at (Term.int_eval (1)) rfl), trivial⟩ ⟨hq.1, hq.2.1, (hq.2.2.sift fun y hy => Or.inr (N y hy)).mono (by decide) (by decide)⟩⟩
theorem main_1_1 : Claimed_1_1 := comes_1 fun _ _ _ _ _ _ h hF => ⟨h.1, hF⟩
theorem main_1_2 : Claimed_1_2 := comes_1 fun _ _ _ _ _ _ h hF => ⟨h.2.1, hF⟩
end Jvm.Pilot.@@N@@
namespace Jvm.Pilot.@@N@@
open Jvm Jvm.ClassFile Sem Op Lib Jvm.Free Jvm.Stand Jvm.Pilot.@@N@@.Jvm.D
/-! MADE BY PROGRAM (witnessworld.py) out of the Statement's table words and the real class files: 21 classes; the members and pool entries that the words name. The judged class is class 1, her method 1. -/
namespace start1
open Jvm.ClassFile
def u (s : String) : CpInfo := .utf8 (stringToUtf16 s)
/-- a pool by its gaps: so many unusable entries, then the entry; so many at the end -/
def gap : Nat → List CpInfo → List CpInfo
  | 0, r => r
  | n + 1, r => .unusable :: gap n r
def poolList (es : List (Nat × CpInfo)) (last : Nat) : List CpInfo := es.foldr (fun e r => gap e.1 (e.2 :: r)) (gap last [])
def pool (es : List (Nat × CpInfo)) (last : Nat) : Array CpInfo := ⟨poolList es last⟩
def fileOf (pool : Array CpInfo) (this : Nat) (attrs : Array Attribute := #[]) (ms : Array MethodInfo := #[]) (fl : Nat := 33) (sup : Nat := 0) (ifs : Array Nat := #[]) (fds : Array FieldInfo := #[]) : ClassFile where
  minorVersion := 0
  majorVersion := 65
  constantPool := pool
  accessFlags := fl
  thisClass := this
  superClass := sup
  interfaces := ifs
  fields := fds
  methods := ms
  attributes := attrs
def plain (name : String) (sup : Option ClassId) : Class where
  name := name
  kind := .ordinary
  loader := none
  accessFlags := 33
  super := sup
  interfaces := #[]
  cf := none
  fields := #[]
  methods := #[]
  instanceTypes := #[]
  staticTypes := #[]
  resolved := #[]
  callSites := []
  init := .initialized
  statics := none
  mirror := none

def pool0 : Array CpInfo := pool [(5, u "<init>"), (0, u "()V"), (1, .class_ 10), (1, u "java/lang/Object")] 113

def k0c0 : Code := { maxStack := 0, maxLocals := 1, code := object_method_1_code, exceptionTable := #[], attributes := #[] }
def k0m0 : Method := { name := "<init>", desc := "()V", sig := { parameters := [], returnType := none }, accessFlags := 1, code := some k0c0 }
/-- java/lang/Object -/
def k0 : Class := { plain "java/lang/Object" none with
  accessFlags := 33
  interfaces := #[]
  cf := some (fileOf pool0 8 #[] #[{ accessFlags := 1, nameIndex := 5, descriptorIndex := 6, attributes := #[] }] 33 0 #[] #[])
  fields := #[]
  methods := #[k0m0]
  instanceTypes := #[]
  staticTypes := #[]
  resolved := Array.replicate 124 none
  statics := none }

def pool1 : Array CpInfo := pool [(2, .class_ 4), (1, u "java/lang/Object"), (0, u "<init>"), (0, u "()V"), (0, .integer 2147483647), (0, .long 9223372036854775807), (1, .integer 65535), (0, .class_ 12), (0, u "com/example/tacit/tacit/bench/Settings"), (0, .class_ 14), (0, u "java/lang/String"), (0, .methodref 13 16), (0, .nameAndType 5 17), (0, u "([C)V"), (0, .methodref 11 19), (0, .nameAndType 5 20), (0, u "(Ljava/lang/String;IJIIIIIJ)V"), (0, .methodref 11 22), (0, .nameAndType 23 24), (0, u "counted"), (0, u "()J"), (0, .methodref 11 26), (0, .nameAndType 27 28), (0, u "openLoop"), (0, u "()Z"), (0, .class_ 30), (0, u "com/example/tacit/tacit/bench/SettingsCountedPinLaw"), (2, u "law"), (0, u "(IIIIJJ)Z")] 5

def k1m0 : Method := { name := "<init>", desc := "()V", sig := { parameters := [], returnType := none }, accessFlags := 1, code := none }
def k1c1 : Code := { maxStack := 13, maxLocals := 27, code := code, exceptionTable := #[], attributes := #[] }
def k1m1 : Method := { name := "law", desc := "(IIIIJJ)Z", sig := { parameters := [.int, .int, .int, .int, .long, .long], returnType := some .boolean }, accessFlags := 9, code := some k1c1 }
/-- com/example/tacit/tacit/bench/SettingsCountedPinLaw -/
def k1 : Class := { plain "com/example/tacit/tacit/bench/SettingsCountedPinLaw" (some 0) with
  accessFlags := 49
  interfaces := #[]
  cf := some (fileOf pool1 29 #[] #[{ accessFlags := 1, nameIndex := 5, descriptorIndex := 6, attributes := #[] }, { accessFlags := 9, nameIndex := 33, descriptorIndex := 34, attributes := #[] }] 49 2 #[] #[])
  fields := #[]
  methods := #[k1m0, k1m1]
  instanceTypes := #[]
  staticTypes := #[]
  resolved := Array.replicate 40 none
  statics := none }

def pool2 : Array CpInfo := pool [(1, .methodref 2 3), (0, .class_ 4), (0, .nameAndType 5 6), (0, u "java/lang/Object"), (0, u "<init>"), (0, u "()V"), (0, .class_ 8), (0, u "java/lang/Record")] 13

def k2c0 : Code := { maxStack := 1, maxLocals := 1, code := jdk_30_method_1_code, exceptionTable := #[], attributes := #[] }
def k2m0 : Method := { name := "<init>", desc := "()V", sig := { parameters := [], returnType := none }, accessFlags := 4, code := some k2c0 }
/-- java/lang/Record -/
def k2 : Class := { plain "java/lang/Record" (some 0) with
  accessFlags := 1057
  interfaces := #[]
  cf := some (fileOf pool2 7 #[] #[{ accessFlags := 4, nameIndex := 5, descriptorIndex := 6, attributes := #[] }] 1057 2 #[] #[])
  fields := #[]
  methods := #[k2m0]
  instanceTypes := #[]
  staticTypes := #[]
  resolved := Array.replicate 22 none
  statics := none }

def pool3 : Array CpInfo := pool [(1, .methodref 2 3), (0, .class_ 4), (0, .nameAndType 5 6), (0, u "java/lang/Record"), (0, u "<init>"), (0, u "()V"), (0, .fieldref 8 9), (0, .class_ 10), (0, .nameAndType 11 12), (0, u "com/example/tacit/tacit/bench/Settings"), (0, u "protocol"), (0, u "Ljava/lang/String;"), (0, .fieldref 8 14), (0, .nameAndType 15 16), (0, u "replicas"), (0, u "I"), (0, .fieldref 8 18), (0, .nameAndType 19 20), (0, u "delayMs"), (0, u "J"), (0, .fieldref 8 22), (0, .nameAndType 23 16), (0, u "clients"), (0, .fieldref 8 25), (0, .nameAndType 26 16), (0, u "rate"), (0, .fieldref 8 28), (0, .nameAndType 29 16), (0, u "seconds"), (0, .fieldref 8 31), (0, .nameAndType 32 16), (0, u "calls"), (0, .fieldref 8 34), (0, .nameAndType 35 16), (0, u "warmupSeconds"), (0, .fieldref 8 37), (0, .nameAndType 38 20), (0, u "seed"), (12, u "(Ljava/lang/String;IJIIIIIJ)V"), (3, u "openLoop"), (0, u "()Z"), (1, u "counted"), (0, u "()J")] 31

def k3c0 : Code := { maxStack := 3, maxLocals := 12, code := prog_31_method_1_code, exceptionTable := #[], attributes := #[] }
def k3m0 : Method := { name := "<init>", desc := "(Ljava/lang/String;IJIIIIIJ)V", sig := { parameters := [(.object "java/lang/String"), .int, .long, .int, .int, .int, .int, .int, .long], returnType := none }, accessFlags := 0, code := some k3c0 }
def k3c1 : Code := { maxStack := 1, maxLocals := 1, code := prog_31_method_2_code, exceptionTable := #[], attributes := #[] }
def k3m1 : Method := { name := "openLoop", desc := "()Z", sig := { parameters := [], returnType := some .boolean }, accessFlags := 0, code := some k3c1 }
def k3c2 : Code := { maxStack := 4, maxLocals := 1, code := prog_31_method_3_code, exceptionTable := #[], attributes := #[] }
def k3m2 : Method := { name := "counted", desc := "()J", sig := { parameters := [], returnType := some .long }, accessFlags := 0, code := some k3c2 }
/-- com/example/tacit/tacit/bench/Settings -/
def k3 : Class := { plain "com/example/tacit/tacit/bench/Settings" (some 2) with
  accessFlags := 48
  interfaces := #[]
  cf := some (fileOf pool3 8 #[] #[{ accessFlags := 0, nameIndex := 5, descriptorIndex := 51, attributes := #[] }, { accessFlags := 0, nameIndex := 55, descriptorIndex := 56, attributes := #[] }, { accessFlags := 0, nameIndex := 58, descriptorIndex := 59, attributes := #[] }] 48 2 #[] #[{ accessFlags := 18, nameIndex := 11, descriptorIndex := 12, attributes := #[] }, { accessFlags := 18, nameIndex := 15, descriptorIndex := 16, attributes := #[] }, { accessFlags := 18, nameIndex := 19, descriptorIndex := 20, attributes := #[] }, { accessFlags := 18, nameIndex := 23, descriptorIndex := 16, attributes := #[] }, { accessFlags := 18, nameIndex := 26, descriptorIndex := 16, attributes := #[] }, { accessFlags := 18, nameIndex := 29, descriptorIndex := 16, attributes := #[] }, { accessFlags := 18, nameIndex := 32, descriptorIndex := 16, attributes := #[] }, { accessFlags := 18, nameIndex := 35, descriptorIndex := 16, attributes := #[] }, { accessFlags := 18, nameIndex := 38, descriptorIndex := 20, attributes := #[] }])
  fields := #[{ name := "protocol", type := (.object "java/lang/String"), accessFlags := 18, slot := 0, constantValue := 0 }, { name := "replicas", type := .int, accessFlags := 18, slot := 1, constantValue := 0 }, { name := "delayMs", type := .long, accessFlags := 18, slot := 2, constantValue := 0 }, { name := "clients", type := .int, accessFlags := 18, slot := 3, constantValue := 0 }, { name := "rate", type := .int, accessFlags := 18, slot := 4, constantValue := 0 }, { name := "seconds", type := .int, accessFlags := 18, slot := 5, constantValue := 0 }, { name := "calls", type := .int, accessFlags := 18, slot := 6, constantValue := 0 }, { name := "warmupSeconds", type := .int, accessFlags := 18, slot := 7, constantValue := 0 }, { name := "seed", type := .long, accessFlags := 18, slot := 8, constantValue := 0 }]
  methods := #[k3m0, k3m1, k3m2]
  instanceTypes := #[(.object "java/lang/String"), .int, .long, .int, .int, .int, .int, .int, .long]
  staticTypes := #[]
  resolved := Array.replicate 91 none
  statics := none }

def pool4 : Array CpInfo := pool [(1, .class_ 2), (0, u "java/io/Serializable"), (0, .class_ 4), (0, u "java/lang/Object")] 2

/-- java/io/Serializable -/
def k4 : Class := { plain "java/io/Serializable" (some 0) with
  accessFlags := 1537
  interfaces := #[]
  cf := some (fileOf pool4 1 #[] #[] 1537 3 #[] #[])
  fields := #[]
  methods := #[]
  instanceTypes := #[]
  staticTypes := #[]
  resolved := Array.replicate 7 none
  statics := none }

def pool5 : Array CpInfo := pool [(1, .class_ 2), (0, u "java/lang/Comparable"), (0, .class_ 4), (0, u "java/lang/Object")] 7

/-- java/lang/Comparable -/
def k5 : Class := { plain "java/lang/Comparable" (some 0) with
  accessFlags := 1537
  interfaces := #[]
  cf := some (fileOf pool5 1 #[] #[] 1537 3 #[] #[])
  fields := #[]
  methods := #[]
  instanceTypes := #[]
  staticTypes := #[]
  resolved := Array.replicate 12 none
  statics := none }

def pool6 : Array CpInfo := pool [(2, .class_ 4), (1, u "java/lang/CharSequence"), (42, .class_ 48), (0, u "java/lang/CharSequence$1CodePointIterator"), (10, .class_ 60), (0, u "java/lang/CharSequence$1CharIterator"), (5, .class_ 67), (0, u "java/lang/Object")] 63

/-- java/lang/CharSequence -/
def k6 : Class := { plain "java/lang/CharSequence" (some 0) with
  accessFlags := 1537
  interfaces := #[]
  cf := some (fileOf pool6 2 #[.nestMembers #[47, 59]] #[] 1537 66 #[] #[])
  fields := #[]
  methods := #[]
  instanceTypes := #[]
  staticTypes := #[]
  resolved := Array.replicate 131 none
  statics := none }

def pool7 : Array CpInfo := pool [(1, .class_ 2), (0, u "java/lang/constant/Constable"), (0, .class_ 4), (0, u "java/lang/Object")] 6

/-- java/lang/constant/Constable -/
def k7 : Class := { plain "java/lang/constant/Constable" (some 0) with
  accessFlags := 1537
  interfaces := #[]
  cf := some (fileOf pool7 1 #[] #[] 1537 3 #[] #[])
  fields := #[]
  methods := #[]
  instanceTypes := #[]
  staticTypes := #[]
  resolved := Array.replicate 11 none
  statics := none }

def pool8 : Array CpInfo := pool [(1, .class_ 2), (0, u "java/lang/constant/ConstantDesc"), (0, .class_ 4), (0, u "java/lang/Object")] 32

/-- java/lang/constant/ConstantDesc -/
def k8 : Class := { plain "java/lang/constant/ConstantDesc" (some 0) with
  accessFlags := 1537
  interfaces := #[]
  cf := some (fileOf pool8 1 #[] #[] 1537 3 #[] #[])
  fields := #[]
  methods := #[]
  instanceTypes := #[]
  staticTypes := #[]
  resolved := Array.replicate 37 none
  statics := none }

def pool9 : Array CpInfo := pool [(1, .methodref 2 3), (0, .class_ 4), (0, .nameAndType 5 6), (0, u "java/lang/Object"), (0, u "<init>"), (0, u "()V"), (2, .fieldref 10 11), (0, .class_ 12), (0, .nameAndType 13 14), (0, u "java/lang/String"), (0, u "value"), (0, u "[B"), (0, .fieldref 10 16), (0, .nameAndType 17 18), (0, u "coder"), (0, u "B"), (2, u "hash"), (0, u "I"), (2, u "hashIsZero"), (0, u "Z"), (0, .methodref 10 28), (0, .nameAndType 5 29), (0, u "([CIILjava/lang/Void;)V"), (8, .fieldref 10 39), (0, .nameAndType 40 26), (0, u "COMPACT_STRINGS"), (1, .class_ 44), (1, u "java/lang/StringUTF16"), (0, u "compress"), (1, .methodref 42 48), (0, .nameAndType 49 50), (0, u "coderFromArrayLen"), (0, u "([BI)B"), (126, .methodref 42 178), (0, .nameAndType 45 179), (0, u "([CII)[B"), (395, .class_ 576), (0, u "java/lang/CharSequence"), (22, u "CASE_INSENSITIVE_ORDER"), (0, u "Ljava/util/Comparator;"), (409, u "([C)V"), (90, u "serialPersistentFields"), (0, u "[Ljava/io/ObjectStreamField;"), (0, .class_ 1104), (0, u "java/lang/String$CaseInsensitiveComparator"), (1, .class_ 1107), (0, u "java/io/Serializable"), (0, .class_ 1109), (0, u "java/lang/Comparable"), (0, .class_ 1111), (0, u "java/lang/constant/Constable"), (0, .class_ 1113), (0, u "java/lang/constant/ConstantDesc"), (2, u "serialVersionUID"), (0, u "J"), (3, u "REPL"), (0, u "C"), (2, u "LATIN1"), (1, u "UTF16")] 323

def k9m0 : Method := { name := "<init>", desc := "()V", sig := { parameters := [], returnType := none }, accessFlags := 1, code := none }
def k9c1 : Code := { maxStack := 5, maxLocals := 2, code := jdk_42_method_3_code, exceptionTable := #[], attributes := #[] }
def k9m1 : Method := { name := "<init>", desc := "([C)V", sig := { parameters := [(.array .char)], returnType := none }, accessFlags := 1, code := some k9c1 }
def k9c2 : Code := { maxStack := 4, maxLocals := 6, code := jdk_42_method_149_code, exceptionTable := #[], attributes := #[] }
def k9m2 : Method := { name := "<init>", desc := "([CIILjava/lang/Void;)V", sig := { parameters := [(.array .char), .int, .int, (.object "java/lang/Void")], returnType := none }, accessFlags := 2, code := some k9c2 }
/-- java/lang/String -/
def k9 : Class := { plain "java/lang/String" (some 0) with
  accessFlags := 49
  interfaces := #[4, 5, 6, 7, 8]
  cf := some (fileOf pool9 10 #[.nestMembers #[1103]] #[{ accessFlags := 1, nameIndex := 5, descriptorIndex := 6, attributes := #[] }, { accessFlags := 1, nameIndex := 5, descriptorIndex := 1010, attributes := #[] }, { accessFlags := 2, nameIndex := 5, descriptorIndex := 29, attributes := #[] }] 49 2 #[1106, 1108, 575, 1110, 1112] #[{ accessFlags := 18, nameIndex := 13, descriptorIndex := 14, attributes := #[] }, { accessFlags := 18, nameIndex := 17, descriptorIndex := 18, attributes := #[] }, { accessFlags := 2, nameIndex := 21, descriptorIndex := 22, attributes := #[] }, { accessFlags := 2, nameIndex := 25, descriptorIndex := 26, attributes := #[] }, { accessFlags := 26, nameIndex := 1116, descriptorIndex := 1117, attributes := #[] }, { accessFlags := 24, nameIndex := 40, descriptorIndex := 26, attributes := #[] }, { accessFlags := 26, nameIndex := 1101, descriptorIndex := 1102, attributes := #[] }, { accessFlags := 26, nameIndex := 1121, descriptorIndex := 1122, attributes := #[] }, { accessFlags := 25, nameIndex := 599, descriptorIndex := 600, attributes := #[] }, { accessFlags := 24, nameIndex := 1125, descriptorIndex := 18, attributes := #[] }, { accessFlags := 24, nameIndex := 1127, descriptorIndex := 18, attributes := #[] }])
  fields := #[{ name := "value", type := (.array .byte), accessFlags := 18, slot := 0, constantValue := 0 }, { name := "coder", type := .byte, accessFlags := 18, slot := 1, constantValue := 0 }, { name := "hash", type := .int, accessFlags := 2, slot := 2, constantValue := 0 }, { name := "hashIsZero", type := .boolean, accessFlags := 2, slot := 3, constantValue := 0 }, { name := "serialVersionUID", type := .long, accessFlags := 26, slot := 0, constantValue := 0 }, { name := "COMPACT_STRINGS", type := .boolean, accessFlags := 24, slot := 1, constantValue := 0 }, { name := "serialPersistentFields", type := (.array (.object "java/io/ObjectStreamField")), accessFlags := 26, slot := 2, constantValue := 0 }, { name := "REPL", type := .char, accessFlags := 26, slot := 3, constantValue := 0 }, { name := "CASE_INSENSITIVE_ORDER", type := (.object "java/util/Comparator"), accessFlags := 25, slot := 4, constantValue := 0 }, { name := "LATIN1", type := .byte, accessFlags := 24, slot := 5, constantValue := 0 }, { name := "UTF16", type := .byte, accessFlags := 24, slot := 6, constantValue := 0 }]
  methods := #[k9m0, k9m1, k9m2]
  instanceTypes := #[(.array .byte), .byte, .int, .boolean]
  staticTypes := #[.long, .boolean, (.array (.object "java/io/ObjectStreamField")), .char, (.object "java/util/Comparator"), .byte, .byte]
  resolved := Array.replicate 1451 none
  statics := some 0 }

def pool10 : Array CpInfo := pool [(6, .class_ 8), (1, u "java/lang/Object"), (0, u "<init>"), (0, u "()V"), (1, .class_ 14), (1, u "java/lang/StringUTF16"), (31, u "$assertionsDisabled"), (0, u "Z"), (13, u "HI_BYTE_SHIFT"), (0, u "I"), (2, u "LO_BYTE_SHIFT"), (49, .methodref 12 116), (0, .nameAndType 117 118), (0, u "compress"), (0, u "([CI[BII)I"), (3, u "([CII)[B"), (138, u "coderFromArrayLen"), (0, u "([BI)B"), (106, .class_ 371), (1, u "java/lang/StringUTF16$LinesSpliterator"), (58, u "MAX_LENGTH"), (196, .class_ 628), (0, u "java/lang/StringUTF16$CodePointsSpliterator"), (0, .class_ 630), (0, u "java/lang/StringUTF16$CharsSpliterator")] 4

def k10m0 : Method := { name := "<init>", desc := "()V", sig := { parameters := [], returnType := none }, accessFlags := 0, code := none }
def k10c1 : Code := { maxStack := 2, maxLocals := 2, code := jdk_52_method_15_code, exceptionTable := #[], attributes := #[] }
def k10m1 : Method := { name := "coderFromArrayLen", desc := "([BI)B", sig := { parameters := [(.array .byte), .int], returnType := some .byte }, accessFlags := 8, code := some k10c1 }
def k10c2 : Code := { maxStack := 5, maxLocals := 6, code := jdk_52_method_16_code, exceptionTable := #[], attributes := #[] }
def k10m2 : Method := { name := "compress", desc := "([CII)[B", sig := { parameters := [(.array .char), .int, .int], returnType := some (.array .byte) }, accessFlags := 9, code := some k10c2 }
def k10c3 : Code := { maxStack := 3, maxLocals := 7, code := jdk_52_method_21_code, exceptionTable := #[], attributes := #[] }
def k10m3 : Method := { name := "compress", desc := "([CI[BII)I", sig := { parameters := [(.array .char), .int, (.array .byte), .int, .int], returnType := some .int }, accessFlags := 9, code := some k10c3 }
/-- java/lang/StringUTF16 -/
def k10 : Class := { plain "java/lang/StringUTF16" (some 0) with
  accessFlags := 48
  interfaces := #[]
  cf := some (fileOf pool10 12 #[.nestMembers #[627, 629, 369]] #[{ accessFlags := 0, nameIndex := 9, descriptorIndex := 10, attributes := #[] }, { accessFlags := 8, nameIndex := 261, descriptorIndex := 262, attributes := #[] }, { accessFlags := 9, nameIndex := 117, descriptorIndex := 122, attributes := #[] }, { accessFlags := 9, nameIndex := 117, descriptorIndex := 118, attributes := #[] }] 48 6 #[] #[{ accessFlags := 26, nameIndex := 61, descriptorIndex := 62, attributes := #[] }, { accessFlags := 26, nameIndex := 65, descriptorIndex := 62, attributes := #[] }, { accessFlags := 24, nameIndex := 430, descriptorIndex := 62, attributes := #[] }, { accessFlags := 4120, nameIndex := 46, descriptorIndex := 47, attributes := #[] }])
  fields := #[{ name := "HI_BYTE_SHIFT", type := .int, accessFlags := 26, slot := 0, constantValue := 0 }, { name := "LO_BYTE_SHIFT", type := .int, accessFlags := 26, slot := 1, constantValue := 0 }, { name := "MAX_LENGTH", type := .int, accessFlags := 24, slot := 2, constantValue := 0 }, { name := "$assertionsDisabled", type := .boolean, accessFlags := 4120, slot := 3, constantValue := 0 }]
  methods := #[k10m0, k10m1, k10m2, k10m3]
  instanceTypes := #[]
  staticTypes := #[.int, .int, .int, .boolean]
  resolved := Array.replicate 635 none
  statics := none }

def pool11 : Array CpInfo := pool [(4, .class_ 6), (1, u "java/lang/Object"), (0, u "<init>"), (0, u "()V"), (5, .class_ 16), (1, u "java/lang/StringLatin1"), (104, u "$assertionsDisabled"), (0, u "Z"), (98, .class_ 223), (1, u "java/lang/StringLatin1$LinesSpliterator"), (166, .class_ 391), (0, u "java/lang/StringLatin1$CharsSpliterator")] 3

def k11m0 : Method := { name := "<init>", desc := "()V", sig := { parameters := [], returnType := none }, accessFlags := 0, code := none }
/-- java/lang/StringLatin1 -/
def k11 : Class := { plain "java/lang/StringLatin1" (some 0) with
  accessFlags := 48
  interfaces := #[]
  cf := some (fileOf pool11 14 #[.nestMembers #[390, 221]] #[{ accessFlags := 0, nameIndex := 7, descriptorIndex := 8, attributes := #[] }] 48 4 #[] #[{ accessFlags := 4120, nameIndex := 121, descriptorIndex := 122, attributes := #[] }])
  fields := #[{ name := "$assertionsDisabled", type := .boolean, accessFlags := 4120, slot := 0, constantValue := 0 }]
  methods := #[k11m0]
  instanceTypes := #[]
  staticTypes := #[.boolean]
  resolved := Array.replicate 395 none
  statics := none }

def pool12 : Array CpInfo := pool [(2, .class_ 4), (1, u "java/lang/Object"), (0, u "<init>"), (0, u "()V"), (17, .class_ 26), (1, u "jdk/internal/util/Preconditions"), (28, .class_ 56), (0, u "jdk/internal/util/Preconditions$4"), (57, .class_ 115), (0, u "jdk/internal/util/Preconditions$1"), (7, u "SIOOBE_FORMATTER"), (0, u "Ljava/util/function/BiFunction;"), (0, .class_ 126), (0, u "jdk/internal/util/Preconditions$2"), (3, u "AIOOBE_FORMATTER"), (0, .class_ 132), (0, u "jdk/internal/util/Preconditions$3"), (3, u "IOOBE_FORMATTER")] 57

def k12m0 : Method := { name := "<init>", desc := "()V", sig := { parameters := [], returnType := none }, accessFlags := 1, code := none }
/-- jdk/internal/util/Preconditions -/
def k12 : Class := { plain "jdk/internal/util/Preconditions" (some 0) with
  accessFlags := 33
  interfaces := #[]
  cf := some (fileOf pool12 24 #[.nestMembers #[55, 131, 125, 114]] #[{ accessFlags := 1, nameIndex := 5, descriptorIndex := 6, attributes := #[] }] 33 2 #[] #[{ accessFlags := 25, nameIndex := 123, descriptorIndex := 124, attributes := #[] }, { accessFlags := 25, nameIndex := 130, descriptorIndex := 124, attributes := #[] }, { accessFlags := 25, nameIndex := 136, descriptorIndex := 124, attributes := #[] }])
  fields := #[{ name := "SIOOBE_FORMATTER", type := (.object "java/util/function/BiFunction"), accessFlags := 25, slot := 0, constantValue := 0 }, { name := "AIOOBE_FORMATTER", type := (.object "java/util/function/BiFunction"), accessFlags := 25, slot := 1, constantValue := 0 }, { name := "IOOBE_FORMATTER", type := (.object "java/util/function/BiFunction"), accessFlags := 25, slot := 2, constantValue := 0 }]
  methods := #[k12m0]
  instanceTypes := #[]
  staticTypes := #[(.object "java/util/function/BiFunction"), (.object "java/util/function/BiFunction"), (.object "java/util/function/BiFunction")]
  resolved := Array.replicate 194 none
  statics := some 1 }

def pool13 : Array CpInfo := pool [(9, u "<init>"), (6, .class_ 18), (1, u "java/lang/Object"), (0, u "()V"), (1, .class_ 23), (1, u "jdk/internal/util/ArraysSupport"), (0, u "LOG2_ARRAY_LONG_INDEX_SCALE"), (0, u "I"), (2, u "U"), (0, u "Ljdk/internal/misc/Unsafe;"), (8, u "BIG_ENDIAN"), (0, u "Z"), (8, u "LOG2_BYTE_BIT_SIZE"), (4, u "LOG2_ARRAY_INT_INDEX_SCALE"), (54, u "JLA"), (0, u "Ljdk/internal/access/JavaLangAccess;"), (11, u "LOG2_ARRAY_BOOLEAN_INDEX_SCALE"), (9, u "LOG2_ARRAY_BYTE_INDEX_SCALE"), (5, u "LOG2_ARRAY_CHAR_INDEX_SCALE"), (5, u "LOG2_ARRAY_SHORT_INDEX_SCALE"), (18, u "LOG2_ARRAY_FLOAT_INDEX_SCALE"), (24, u "LOG2_ARRAY_DOUBLE_INDEX_SCALE"), (89, u "T_BOOLEAN"), (2, u "T_CHAR"), (1, u "T_FLOAT"), (1, u "T_DOUBLE"), (1, u "T_BYTE"), (1, u "T_SHORT"), (1, u "T_INT"), (1, u "T_LONG"), (1, u "SOFT_MAX_ARRAY_LENGTH")] 83

def k13m0 : Method := { name := "<init>", desc := "()V", sig := { parameters := [], returnType := none }, accessFlags := 2, code := none }
/-- jdk/internal/util/ArraysSupport -/
def k13 : Class := { plain "jdk/internal/util/ArraysSupport" (some 0) with
  accessFlags := 33
  interfaces := #[]
  cf := some (fileOf pool13 21 #[] #[{ accessFlags := 2, nameIndex := 9, descriptorIndex := 19, attributes := #[] }] 33 16 #[] #[{ accessFlags := 24, nameIndex := 28, descriptorIndex := 29, attributes := #[] }, { accessFlags := 26, nameIndex := 38, descriptorIndex := 39, attributes := #[] }, { accessFlags := 25, nameIndex := 121, descriptorIndex := 25, attributes := #[] }, { accessFlags := 25, nameIndex := 131, descriptorIndex := 25, attributes := #[] }, { accessFlags := 25, nameIndex := 137, descriptorIndex := 25, attributes := #[] }, { accessFlags := 25, nameIndex := 143, descriptorIndex := 25, attributes := #[] }, { accessFlags := 25, nameIndex := 53, descriptorIndex := 25, attributes := #[] }, { accessFlags := 25, nameIndex := 24, descriptorIndex := 25, attributes := #[] }, { accessFlags := 25, nameIndex := 162, descriptorIndex := 25, attributes := #[] }, { accessFlags := 25, nameIndex := 187, descriptorIndex := 25, attributes := #[] }, { accessFlags := 26, nameIndex := 48, descriptorIndex := 25, attributes := #[] }, { accessFlags := 25, nameIndex := 277, descriptorIndex := 25, attributes := #[] }, { accessFlags := 25, nameIndex := 280, descriptorIndex := 25, attributes := #[] }, { accessFlags := 25, nameIndex := 282, descriptorIndex := 25, attributes := #[] }, { accessFlags := 25, nameIndex := 284, descriptorIndex := 25, attributes := #[] }, { accessFlags := 25, nameIndex := 286, descriptorIndex := 25, attributes := #[] }, { accessFlags := 25, nameIndex := 288, descriptorIndex := 25, attributes := #[] }, { accessFlags := 25, nameIndex := 290, descriptorIndex := 25, attributes := #[] }, { accessFlags := 25, nameIndex := 292, descriptorIndex := 25, attributes := #[] }, { accessFlags := 26, nameIndex := 108, descriptorIndex := 109, attributes := #[] }, { accessFlags := 25, nameIndex := 294, descriptorIndex := 25, attributes := #[] }])
  fields := #[{ name := "U", type := (.object "jdk/internal/misc/Unsafe"), accessFlags := 24, slot := 0, constantValue := 0 }, { name := "BIG_ENDIAN", type := .boolean, accessFlags := 26, slot := 1, constantValue := 0 }, { name := "LOG2_ARRAY_BOOLEAN_INDEX_SCALE", type := .int, accessFlags := 25, slot := 2, constantValue := 0 }, { name := "LOG2_ARRAY_BYTE_INDEX_SCALE", type := .int, accessFlags := 25, slot := 3, constantValue := 0 }, { name := "LOG2_ARRAY_CHAR_INDEX_SCALE", type := .int, accessFlags := 25, slot := 4, constantValue := 0 }, { name := "LOG2_ARRAY_SHORT_INDEX_SCALE", type := .int, accessFlags := 25, slot := 5, constantValue := 0 }, { name := "LOG2_ARRAY_INT_INDEX_SCALE", type := .int, accessFlags := 25, slot := 6, constantValue := 0 }, { name := "LOG2_ARRAY_LONG_INDEX_SCALE", type := .int, accessFlags := 25, slot := 7, constantValue := 0 }, { name := "LOG2_ARRAY_FLOAT_INDEX_SCALE", type := .int, accessFlags := 25, slot := 8, constantValue := 0 }, { name := "LOG2_ARRAY_DOUBLE_INDEX_SCALE", type := .int, accessFlags := 25, slot := 9, constantValue := 0 }, { name := "LOG2_BYTE_BIT_SIZE", type := .int, accessFlags := 26, slot := 10, constantValue := 0 }, { name := "T_BOOLEAN", type := .int, accessFlags := 25, slot := 11, constantValue := 0 }, { name := "T_CHAR", type := .int, accessFlags := 25, slot := 12, constantValue := 0 }, { name := "T_FLOAT", type := .int, accessFlags := 25, slot := 13, constantValue := 0 }, { name := "T_DOUBLE", type := .int, accessFlags := 25, slot := 14, constantValue := 0 }, { name := "T_BYTE", type := .int, accessFlags := 25, slot := 15, constantValue := 0 }, { name := "T_SHORT", type := .int, accessFlags := 25, slot := 16, constantValue := 0 }, { name := "T_INT", type := .int, accessFlags := 25, slot := 17, constantValue := 0 }, { name := "T_LONG", type := .int, accessFlags := 25, slot := 18, constantValue := 0 }, { name := "JLA", type := (.object "jdk/internal/access/JavaLangAccess"), accessFlags := 26, slot := 19, constantValue := 0 }, { name := "SOFT_MAX_ARRAY_LENGTH", type := .int, accessFlags := 25, slot := 20, constantValue := 0 }]
  methods := #[k13m0]
  instanceTypes := #[]
  staticTypes := #[(.object "jdk/internal/misc/Unsafe"), .boolean, .int, .int, .int, .int, .int, .int, .int, .int, .int, .int, .int, .int, .int, .int, .int, .int, .int, (.object "jdk/internal/access/JavaLangAccess"), .int]
  resolved := Array.replicate 378 none
  statics := none }

def pool14 : Array CpInfo := pool [(1, u "java/lang/Cloneable"), (0, .class_ 1), (0, u "java/lang/Object"), (0, .class_ 3)] 3

/-- java/lang/Cloneable -/
def k14 : Class := { plain "java/lang/Cloneable" (some 0) with
  accessFlags := 1537
  interfaces := #[]
  cf := some (fileOf pool14 2 #[] #[] 1537 4 #[] #[])
  fields := #[]
  methods := #[]
  instanceTypes := #[]
  staticTypes := #[]
  resolved := Array.replicate 8 none
  statics := none }

/-- the primitive byte -/
def k15 : Class := { plain "byte" none with kind := .primitive 'B', accessFlags := 0x411 }
/-- [B -/
def k16 : Class := { plain "[B" (some 0) with kind := .array 15 .byte, interfaces := #[14, 4], accessFlags := 1041 }

/-- the primitive char -/
def k17 : Class := { plain "char" none with kind := .primitive 'C', accessFlags := 0x411 }
/-- [C -/
def k18 : Class := { plain "[C" (some 0) with kind := .array 17 .char, interfaces := #[14, 4], accessFlags := 1041 }

/-- the primitive int -/
def k19 : Class := { plain "int" none with kind := .primitive 'I', accessFlags := 0x411 }
/-- [I -/
def k20 : Class := { plain "[I" (some 0) with kind := .array 19 .int, interfaces := #[14, 4], accessFlags := 1041 }

def heap : Heap := #[{ cls := 9, slots := #[.long 0, .int 1, .null, .int 0, .null, .int 0, .int 0], vm := .statics 9 },
  { cls := 12, slots := #[.null, .null, .null], vm := .statics 12 }]
def classes : Array Class := #[k0, k1, k2, k3, k4, k5, k6, k7, k8, k9, k10, k11, k12, k13, k14, k15, k16, k17, k18, k19, k20]
def interned : List (Array UInt16 × Addr) := []
def slotsUsed : Nat := 10
def theMethod : MethodId := ⟨1, 1⟩
def args0 : Array Value := #[.int 1, .int 1, .int 1, .int 1, .long 1, .long 1]
def aboutOver (below : List Frame) : State where
  vm := { classes := classes, interned := interned.toArray }
  heap := heap
  slotsUsed := slotsUsed
  threads := #[{ frames := .invoking theMethod args0 :: below }]
def below0 : List Frame := [.native { method := ⟨0, 0⟩, args := #[] }]
def about1 : State := aboutOver below0
def p0 : Program := .bare "" "" ""
def e0 : Env := launch0.env 0 0 0
theorem w_frames : about1.frames = Frame.invoking theMethod args0 :: below0 := rfl
set_option maxRecDepth 65536 in
theorem w_args : argsFit about1.vm theMethod args0 = true := by decide +kernel
set_option maxRecDepth 65536 in
theorem w_heap : heapFits about1 = true := by decide +kernel
set_option maxRecDepth 65536 in
theorem w_runnable : about1.curStatus? = some .runnable := by decide +kernel
set_option maxRecDepth 65536 in
theorem w_alone : about1.alone = true := by decide +kernel
set_option maxRecDepth 65536 in
theorem w_named : about1.methodNamed? x = some theMethod := by decide +kernel
set_option maxRecDepth 65536 in
theorem w_hears : about1.hears theMethod below0 = true := by decide +kernel
set_option maxRecDepth 65536 in
theorem w_ripe : about1.ripe theMethod args0 below0 = true := by decide +kernel
theorem w_running : about1.status = .running := rfl
set_option maxRecDepth 65536 in
theorem w_room : about1.hasRoom e0.platform room_1 = true :=
  launch0.hasRoom_least _ room_1 (by decide +kernel) (by decide +kernel) (by decide +kernel) (by decide +kernel) (by decide +kernel) (by decide +kernel)
theorem allAtoms_all (ts : List Jvm.Cond) (a : Array Jvm.Value) (st : Jvm.State) : (allAtoms ts).before a st = ts.all (fun c => c.before a st) := by
  induction ts with
  | nil => rfl
  | cons c t ih =>
    show (Jvm.Cond.and c (allAtoms t)).before a st = _
    rw [Jvm.Cond.before_and, ih, List.all_cons]
def words1 : List Jvm.Cond := Jvm.Cond.code x code maxLocals ret :: tables_1
/-- a 'code' word, met by the world's own term for the bytes: nothing is compared byte by byte -/
theorem code_word {y : MethodName} {bytes : ByteArray} {mx : Nat} {rt : Option FieldType} {a : Array Value} {s : State} {m : MethodId} {meth : Method} {c : Code} (h1 : s.methodNamed? y = some m) (h2 : s.vm.method? m = some meth) (h3 : meth.code = some c) (h4 : c.code = bytes)
    (h5 : (c.maxLocals == mx && c.exceptionTable.isEmpty && decide (c.maxStack ≤ mostOperands) && decide (meth.sig.returnType = rt) && !meth.locks && decide (parseMethodDescriptor y.desc = some meth.sig)) = true) : (Jvm.Cond.code y bytes mx rt).before a s = true := by
  simp only [Bool.and_eq_true, beq_iff_eq, Bool.not_eq_true', decide_eq_true_eq] at h5
  obtain ⟨⟨⟨⟨⟨g1, g2⟩, g3⟩, g4⟩, g5⟩, g6⟩ := h5
  simp [Cond.before, Cond.holds, Cond.value, h1, h2, h3, h4, g1, g2, g3, g4, g5, g6]
def isCode : Jvm.Cond → Bool
  | .code _ _ _ _ => true
  | _ => false
theorem all_split {L : List Jvm.Cond} {P : Jvm.Cond → Bool} (h1 : L.all (fun c => isCode c || P c) = true) (h2 : ∀ c ∈ L.filter isCode, P c = true) : L.all P = true := by
  refine List.all_eq_true.mpr fun c hc => ?_
  have h := List.all_eq_true.mp h1 c hc
  rcases Bool.eq_false_or_eq_true (isCode c) with hi | hi
  · exact h2 c (List.mem_filter.mpr ⟨hc, hi⟩)
  · simpa [hi] using h
set_option maxRecDepth 65536 in
theorem w_c0 : (Jvm.Cond.code x code maxLocals ret).before args0 about1 = true := code_word (m := ⟨1, 1⟩) (meth := k1m1) (c := k1c1) (by decide +kernel) rfl rfl rfl (by decide +kernel)
set_option maxRecDepth 65536 in
theorem w_c1 : (Jvm.Cond.code ({ cls := "java/lang/String", name := "<init>", desc := "([C)V" } : Jvm.MethodName) jdk_42_method_3_code (2 : Nat) (Option.none : Option Jvm.ClassFile.FieldType)).before args0 about1 = true := code_word (m := ⟨9, 1⟩) (meth := k9m1) (c := k9c1) (by decide +kernel) rfl rfl rfl (by decide +kernel)
set_option maxRecDepth 65536 in
theorem w_c2 : (Jvm.Cond.code ({ cls := "java/lang/String", name := "<init>", desc := "([CIILjava/lang/Void;)V" } : Jvm.MethodName) jdk_42_method_149_code (6 : Nat) (Option.none : Option Jvm.ClassFile.FieldType)).before args0 about1 = true := code_word (m := ⟨9, 2⟩) (meth := k9m2) (c := k9c2) (by decide +kernel) rfl rfl rfl (by decide +kernel)
set_option maxRecDepth 65536 in
theorem w_c3 : (Jvm.Cond.code ({ cls := "java/lang/Object", name := "<init>", desc := "()V" } : Jvm.MethodName) object_method_1_code (1 : Nat) (Option.none : Option Jvm.ClassFile.FieldType)).before args0 about1 = true := code_word (m := ⟨0, 0⟩) (meth := k0m0) (c := k0c0) (by decide +kernel) rfl rfl rfl (by decide +kernel)
set_option maxRecDepth 65536 in
theorem w_c4 : (Jvm.Cond.code ({ cls := "java/lang/StringUTF16", name := "compress", desc := "([CII)[B" } : Jvm.MethodName) jdk_52_method_16_code (6 : Nat) (Option.some (Jvm.ClassFile.FieldType.array Jvm.ClassFile.FieldType.byte))).before args0 about1 = true := code_word (m := ⟨10, 2⟩) (meth := k10m2) (c := k10c2) (by decide +kernel) rfl rfl rfl (by decide +kernel)
set_option maxRecDepth 65536 in
theorem w_c5 : (Jvm.Cond.code ({ cls := "java/lang/StringUTF16", name := "compress", desc := "([CI[BII)I" } : Jvm.MethodName) jdk_52_method_21_code (7 : Nat) (Option.some Jvm.ClassFile.FieldType.int)).before args0 about1 = true := code_word (m := ⟨10, 3⟩) (meth := k10m3) (c := k10c3) (by decide +kernel) rfl rfl rfl (by decide +kernel)
set_option maxRecDepth 65536 in
theorem w_c6 : (Jvm.Cond.code ({ cls := "java/lang/StringUTF16", name := "coderFromArrayLen", desc := "([BI)B" } : Jvm.MethodName) jdk_52_method_15_code (2 : Nat) (Option.some Jvm.ClassFile.FieldType.byte)).before args0 about1 = true := code_word (m := ⟨10, 1⟩) (meth := k10m1) (c := k10c1) (by decide +kernel) rfl rfl rfl (by decide +kernel)
set_option maxRecDepth 65536 in
theorem w_c7 : (Jvm.Cond.code ({ cls := "com/example/tacit/tacit/bench/Settings", name := "<init>", desc := "(Ljava/lang/String;IJIIIIIJ)V" } : Jvm.MethodName) prog_31_method_1_code (12 : Nat) (Option.none : Option Jvm.ClassFile.FieldType)).before args0 about1 = true := code_word (m := ⟨3, 0⟩) (meth := k3m0) (c := k3c0) (by decide +kernel) rfl rfl rfl (by decide +kernel)
set_option maxRecDepth 65536 in
theorem w_c8 : (Jvm.Cond.code ({ cls := "java/lang/Record", name := "<init>", desc := "()V" } : Jvm.MethodName) jdk_30_method_1_code (1 : Nat) (Option.none : Option Jvm.ClassFile.FieldType)).before args0 about1 = true := code_word (m := ⟨2, 0⟩) (meth := k2m0) (c := k2c0) (by decide +kernel) rfl rfl rfl (by decide +kernel)
set_option maxRecDepth 65536 in
theorem w_c9 : (Jvm.Cond.code ({ cls := "com/example/tacit/tacit/bench/Settings", name := "counted", desc := "()J" } : Jvm.MethodName) prog_31_method_3_code (1 : Nat) (Option.some Jvm.ClassFile.FieldType.long)).before args0 about1 = true := code_word (m := ⟨3, 2⟩) (meth := k3m2) (c := k3c2) (by decide +kernel) rfl rfl rfl (by decide +kernel)
set_option maxRecDepth 65536 in
theorem w_c10 : (Jvm.Cond.code ({ cls := "com/example/tacit/tacit/bench/Settings", name := "openLoop", desc := "()Z" } : Jvm.MethodName) prog_31_method_2_code (1 : Nat) (Option.some Jvm.ClassFile.FieldType.boolean)).before args0 about1 = true := code_word (m := ⟨3, 1⟩) (meth := k3m1) (c := k3c1) (by decide +kernel) rfl rfl rfl (by decide +kernel)
def codes1 : List Jvm.Cond := [Jvm.Cond.code x code maxLocals ret, Jvm.Cond.code ({ cls := "java/lang/String", name := "<init>", desc := "([C)V" } : Jvm.MethodName) jdk_42_method_3_code (2 : Nat) (Option.none : Option Jvm.ClassFile.FieldType), Jvm.Cond.code ({ cls := "java/lang/String", name := "<init>", desc := "([CIILjava/lang/Void;)V" } : Jvm.MethodName) jdk_42_method_149_code (6 : Nat) (Option.none : Option Jvm.ClassFile.FieldType), Jvm.Cond.code ({ cls := "java/lang/Object", name := "<init>", desc := "()V" } : Jvm.MethodName) object_method_1_code (1 : Nat) (Option.none : Option Jvm.ClassFile.FieldType), Jvm.Cond.code ({ cls := "java/lang/StringUTF16", name := "compress", desc := "([CII)[B" } : Jvm.MethodName) jdk_52_method_16_code (6 : Nat) (Option.some (Jvm.ClassFile.FieldType.array Jvm.ClassFile.FieldType.byte)), Jvm.Cond.code ({ cls := "java/lang/StringUTF16", name := "compress", desc := "([CI[BII)I" } : Jvm.MethodName) jdk_52_method_21_code (7 : Nat) (Option.some Jvm.ClassFile.FieldType.int), Jvm.Cond.code ({ cls := "java/lang/StringUTF16", name := "coderFromArrayLen", desc := "([BI)B" } : Jvm.MethodName) jdk_52_method_15_code (2 : Nat) (Option.some Jvm.ClassFile.FieldType.byte), Jvm.Cond.code ({ cls := "com/example/tacit/tacit/bench/Settings", name := "<init>", desc := "(Ljava/lang/String;IJIIIIIJ)V" } : Jvm.MethodName) prog_31_method_1_code (12 : Nat) (Option.none : Option Jvm.ClassFile.FieldType), Jvm.Cond.code ({ cls := "java/lang/Record", name := "<init>", desc := "()V" } : Jvm.MethodName) jdk_30_method_1_code (1 : Nat) (Option.none : Option Jvm.ClassFile.FieldType), Jvm.Cond.code ({ cls := "com/example/tacit/tacit/bench/Settings", name := "counted", desc := "()J" } : Jvm.MethodName) prog_31_method_3_code (1 : Nat) (Option.some Jvm.ClassFile.FieldType.long), Jvm.Cond.code ({ cls := "com/example/tacit/tacit/bench/Settings", name := "openLoop", desc := "()Z" } : Jvm.MethodName) prog_31_method_2_code (1 : Nat) (Option.some Jvm.ClassFile.FieldType.boolean)]
set_option maxRecDepth 65536 in
theorem codes_eq : words1.filter isCode = codes1 := rfl
theorem w_codes : ∀ c ∈ words1.filter isCode, c.before args0 about1 = true := by
  rw [codes_eq]
  intro c hc
  simp only [codes1, List.mem_cons, List.not_mem_nil, or_false] at hc
  rcases hc with rfl | rfl | rfl | rfl | rfl | rfl | rfl | rfl | rfl | rfl | rfl
  · exact w_c0
  · exact w_c1
  · exact w_c2
  · exact w_c3
  · exact w_c4
  · exact w_c5
  · exact w_c6
  · exact w_c7
  · exact w_c8
  · exact w_c9
  · exact w_c10
set_option maxRecDepth 65536 in
theorem w_t1 : (words1.take 24).all (fun c => isCode c || c.before args0 about1) = true := by decide +kernel
set_option maxRecDepth 65536 in
theorem w_t2 : ((words1.drop 24).take 24).all (fun c => isCode c || c.before args0 about1) = true := by decide +kernel
set_option maxRecDepth 65536 in
theorem w_t3 : (((words1.drop 24).drop 24).take 24).all (fun c => isCode c || c.before args0 about1) = true := by decide +kernel
set_option maxRecDepth 65536 in
theorem w_t4 : (((words1.drop 24).drop 24).drop 24).all (fun c => isCode c || c.before args0 about1) = true := by decide +kernel
theorem w_tables : (allAtoms (Jvm.Cond.code x code maxLocals ret :: tables_1)).before args0 about1 = true := by
  rw [allAtoms_all]
  show words1.all (fun c => c.before args0 about1) = true
  refine all_split ?_ w_codes
  rw [← List.take_append_drop 24 words1, List.all_append, w_t1, ← List.take_append_drop 24 (words1.drop 24), List.all_append, w_t2, ← List.take_append_drop 24 ((words1.drop 24).drop 24), List.all_append, w_t3, w_t4]
  rfl
set_option maxRecDepth 65536 in
theorem w_rest : rest_1_c.before args0 about1 = true := by decide +kernel
set_option maxRecDepth 65536 in
theorem w_case : (Jvm.Cond.and given_1 narrow_1).before args0 about1 = true := by decide +kernel
theorem w_applies : (headSpec (Jvm.Cond.code x code maxLocals ret :: tables_1) room_1).applies x e0.platform about1 = true :=
  (Spec.applies_iff w_frames).mpr ⟨w_running, w_runnable, w_alone, w_named, w_hears, w_ripe, w_room, w_tables⟩
theorem atStart : AtStart classFile x code maxLocals ret World_1 tables_1 room_1 Calls_1 rest_1 Pre_1 launch0 p0 e0 about1 theMethod args0 below0 :=
  ⟨lists_1, trivial, launch0.admits_env _ _ _, launch0.least_env, fairChoices_fair.cas, fairChoices_fair.clock, w_frames, w_args, w_heap, w_applies, trivial, w_rest, w_case⟩
end start1
theorem witness_1 : WitnessClaimed_1 := ⟨start1.p0, start1.e0, start1.about1, start1.theMethod, start1.args0, start1.below0, start1.atStart⟩
end Jvm.Pilot.@@N@@
