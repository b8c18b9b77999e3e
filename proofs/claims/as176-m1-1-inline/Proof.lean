import JvmDerived
import JvmDerived.Pilot.@@N@@Statement
import JvmDerived.Pilot.@@N@@Code
set_option linter.unusedVariables false
set_option linter.unusedSimpArgs false
namespace Jvm.RoadKit
open Sem ClassFile Op Lib Jvm.Stand Jvm.Free Jvm.LawKit
section New
variable {p : Program} {l : Launch} {e : Env} {R : Room} {s : State} {m : MethodId} {args : Array Value} {below : List Frame} {meth : Method} {c : Code} {T : State} {locs : List Loc} {cells slots : Nat}
theorem retI (X : Stand p l e R s m args below meth c T locs cells slots) (hx : p.tables.exec = Jvm.exec) {pc : Nat} {Ls : Array Slot} {z : Int32} {rest : List Value} (hret : meth.sig.returnType = some .int) (hd : decode c.code pc = .ok (.ireturn, 1)) {fs : List Frame}
    (hl : ∀ (f : JFrame) (acts : List Action), f.method = m → f.locked = none → f.entered = [] → (doReturn e (T.setTop f) acts (some (.int z))).1 = T.setFrames fs) : Steps p.tables e below (T.setTop (mkF m pc Ls (.int z :: rest))) (T.setFrames fs) := by
  have hm' : T.vm.method? m = some meth := X.method'
  have hn : narrow .int (.int z) = .int z := rfl
  show Steps p.tables e below (T.setTop { method := m, pc := pc, locals := Ls, stack := _ :: rest, locked := none }) _
  jvm_step X.here [X.here.top, hx, hd, hm', hret, hn]
  first | (intro acts; rw [hl _ acts rfl rfl rfl]) | rw [hl _ _ rfl rfl rfl]
  exact Steps.refl _
end New
end Jvm.RoadKit
/- laws to paste: Road.backV, Road.lenW, Road.codOf, Road.eqW (cut by pick.py; bodies as the Statement names them) -/
namespace Jvm.Pilot.@@N@@
namespace StrChars
open Jvm Sem ClassFile Op Lib Jvm.Stand Jvm.Free.XT Jvm.Free.ALB Jvm.Free.JM Jvm.Free
open Jvm.Lib.Cold (StaticIs)
/-- a char array whose places are chars -/
def Ch (a : Addr) (A : Cell) (U : State) : Prop := Arr .char a A U ∧ Typed .char A
theorem Ch.mv {a : Addr} {A : Cell} {U U' : State} (h : Ch a A U) (hal : U.vm.Alike U'.vm) (hh : U'.heap = U.heap) : Ch a A U' := ⟨h.1.mv hal hh, h.2⟩
theorem Ch.keep {a : Addr} {A : Cell} {U U' : State} (h : Ch a A U) (hal : U.vm.Alike U'.vm) (hk : U'.heap[a]? = some A) : Ch a A U' := ⟨h.1.keep hal hk, h.2⟩
/-- what place i of a char[]'s cell holds -/
def cv (A : Cell) (i : Nat) : Int32 := match A.slots[i]? with | some (.int x) => x | _ => 0
theorem Ch.get {a : Addr} {A : Cell} {U : State} (h : Ch a A U) {i : Nat} (hi : i < A.slots.size) : A.slots[i]? = some (.int (cv A i)) := by
  have e := Array.getElem?_eq_getElem hi
  have f := h.2 i _ e
  unfold cv; rw [e]
  generalize A.slots[i] = v at f
  cases v <;> simp [fits] at f ⊢
/-- the byte that i2b leaves of a char -/
def lo8 (x : Int32) : Int32 := x.toInt8.toInt32
theorem fits_lo8 (y : Int32) : fits .byte (.int (lo8 y)) = true := by
  have h1 := y.toInt8.le_toInt
  have h2 := y.toInt8.toInt_lt
  simp only [lo8, fits, Bool.and_eq_true, decide_eq_true_eq, Int32.le_iff_toInt_le, Int8.toInt_toInt32, show (-128 : Int32).toInt = -128 from by decide, show (127 : Int32).toInt = 127 from by decide]
  omega
/-- A' is A but that each place j of lo .. hi - 1 holds f j -/
def Laid (A A' : Cell) (lo hi : Nat) (f : Nat → Value) : Prop := A'.cls = A.cls ∧ A'.vm = A.vm ∧ A'.slots.size = A.slots.size ∧ ∀ i, A'.slots[i]? = if lo ≤ i ∧ i < hi then some (f i) else A.slots[i]?
theorem Laid.zero (A : Cell) (lo : Nat) (f : Nat → Value) : Laid A A lo (lo + 0) f := ⟨rfl, rfl, rfl, fun i => by rw [if_neg (by omega)]⟩
theorem Laid.step {A Ak : Cell} {lo k : Nat} {f : Nat → Value} {v : Value} (h : Laid A Ak lo k f) (hlo : lo ≤ k) (hk : k < Ak.slots.size) (hv : v = f k) : Laid A (Ak.setSlot k v) lo (k + 1) f := by
  refine ⟨h.1, h.2.1, by simpa [Cell.setSlot] using h.2.2.1, fun i => ?_⟩
  by_cases e : k = i
  · subst e; rw [Cell.slots_setSlot_self v hk, if_pos (by omega), hv]
  · rw [Cell.slots_setSlot_ne v e, h.2.2.2 i]
    by_cases q : lo ≤ i ∧ i < k
    · rw [if_pos q, if_pos (by omega)]
    · rw [if_neg q, if_neg (by omega)]
def U16 : String := "java/lang/StringUTF16"
namespace Cmp5
def yN : MethodName := ⟨"java/lang/StringUTF16", "compress", "([CI[BII)I"⟩
abbrev yB : ByteArray := jdk_52_method_21_code
theorem d0 : decode yB 0 = .ok (.iconst 0, 1) := by decide +kernel
theorem d1 : decode yB 1 = .ok (.istore 5, 2) := by decide +kernel
theorem d3 : decode yB 3 = .ok (.iload 5, 2) := by decide +kernel
theorem d5 : decode yB 5 = .ok (.iload 4, 2) := by decide +kernel
theorem d7 : decode yB 7 = .ok (.if_icmp (.ge) 37, 3) := by decide +kernel
theorem d10 : decode yB 10 = .ok (.aload_n 0, 1) := by decide +kernel
theorem d11 : decode yB 11 = .ok (.iload_n 1, 1) := by decide +kernel
theorem d12 : decode yB 12 = .ok (.caload, 1) := by decide +kernel
theorem d13 : decode yB 13 = .ok (.istore 6, 2) := by decide +kernel
theorem d15 : decode yB 15 = .ok (.iload 6, 2) := by decide +kernel
theorem d17 : decode yB 17 = .ok (.sipush 255, 3) := by decide +kernel
theorem d20 : decode yB 20 = .ok (.if_icmp (.le) 6, 3) := by decide +kernel
theorem d26 : decode yB 26 = .ok (.aload_n 2, 1) := by decide +kernel
theorem d27 : decode yB 27 = .ok (.iload_n 3, 1) := by decide +kernel
theorem d28 : decode yB 28 = .ok (.iload 6, 2) := by decide +kernel
theorem d30 : decode yB 30 = .ok (.i2b, 1) := by decide +kernel
theorem d31 : decode yB 31 = .ok (.bastore, 1) := by decide +kernel
theorem d32 : decode yB 32 = .ok (.iinc 1 1, 3) := by decide +kernel
theorem d35 : decode yB 35 = .ok (.iinc 3 1, 3) := by decide +kernel
theorem d38 : decode yB 38 = .ok (.iinc 5 1, 3) := by decide +kernel
theorem d41 : decode yB 41 = .ok (.goto (-38), 3) := by decide +kernel
theorem d44 : decode yB 44 = .ok (.iload 4, 2) := by decide +kernel
theorem d46 : decode yB 46 = .ok (.ireturn, 1) := by decide +kernel
def site : List Cond := []
def tab : Cond := tabOf yN yB 7 (some .int) site
def P (b : Addr) (A : Cell) (d : Addr) (B : Cell) (o q len : Nat) (args : Array Value) (s : State) : Prop := args = #[.ref b, .int (Int32.ofNat o), .ref d, .int (Int32.ofNat q), .int (Int32.ofNat len)] ∧ Ch b A s ∧ Arr .byte d B s ∧ b ≠ d ∧ o + len ≤ A.slots.size ∧ q + len ≤ B.slots.size ∧ ∀ i, i < len → ¬ 255 < cv A (o + i)
def E (b : Addr) (A : Cell) (d : Addr) (B : Cell) (o q len : Nat) (r : Option Value) (s u : State) : Prop := r = some (.int (Int32.ofNat len)) ∧ ∃ B', Put d B' s u ∧ Laid B B' q (q + len) (fun j => Value.int (lo8 (cv A (o + (j - q)))))
/-- no char of the range above 255: len; the places written hold each char's low byte -/
theorem law (l : Launch) (b : Addr) (A : Cell) (d : Addr) (B : Cell) (o q len : Nat) : Law l yN 5 5 0 0 yB 7 (some .int) site (P b A d B o q len) (E b A d B o q len) (copyLocs d q len) 0 0 := by
  refine Law.of_walk (plainFor_of_name (by decide +kernel)) (by decide +kernel) (by decide +kernel) (by decide) (fun _ _ h => by rw [h.1]; rfl) (fun _ U U' hal hh h => ⟨h.1, h.2.1.mv hal hh, h.2.2.1.mv hal hh, h.2.2.2⟩) (fun r U U' V V' h1 hal h2 h => ⟨h.1, h.2.elim fun B' q => ⟨B', q.1.mv h1 h2, q.2⟩⟩) ?_
  intro p e s m args below meth c s₁ X0 hexec hbytes hml hret hlk hnm hown hh0 W hP
  obtain ⟨rfl, hA, hB, hne, l1, l2, hp⟩ := hP
  have c1 : Steps p.tables e below (s₁.setTop (entryFrame m #[.ref b, .int (Int32.ofNat o), .ref d, .int (Int32.ofNat q), .int (Int32.ofNat len)] 7)) (s₁.setTop (mkF m 0 #[.val (.ref b), .val (.int (Int32.ofNat o)), .val (.ref d), .val (.int (Int32.ofNat q)), .val (.int (Int32.ofNat len)), .unset, .unset] [])) := entry rfl
  have hA0 := hA.1.mv X0.warmed.alike hh0
  have hB0 := hB.mv X0.warmed.alike hh0
  have a31 := hA.1.2.2.2
  have c2 : Steps p.tables e below (s₁.setTop (entryFrame m #[.ref b, .int (Int32.ofNat o), .ref d, .int (Int32.ofNat q), .int (Int32.ofNat len)] 7)) (s₁.setTop (mkF m 3 #[.val (.ref b), .val (.int (Int32.ofNat o)), .val (.ref d), .val (.int (Int32.ofNat q)), .val (.int (Int32.ofNat len)), .val (.int 0), .unset] [])) := c1.trans (by
    refine iconstV X0.here hexec rfl 0 (hb hbytes d0) (by decide) ?_
    refine XS.istore X0.here hexec rfl (hb hbytes d1) rfl rfl ?_
    exact Steps.refl _)
  have loop : ∀ (r i : Nat), i + r = len → ∀ (z : Slot), (z = .unset ∨ ∃ w, z = .val w ∧ w.category = 1) → ∀ (Tl : State) (Bk : Cell), Stand p l e { frames := 0, locals := 0, cells := 0, slots := 0 } s m #[.ref b, .int (Int32.ofNat o), .ref d, .int (Int32.ofNat q), .int (Int32.ofNat len)] below meth c Tl ([] ++ copyLocs d q i) 0 0 → Put d Bk s₁ Tl → Laid B Bk q (q + i) (fun j => Value.int (lo8 (cv A (o + (j - q))))) →
      Steps p.tables e below (s₁.setTop (entryFrame m #[.ref b, .int (Int32.ofNat o), .ref d, .int (Int32.ofNat q), .int (Int32.ofNat len)] 7)) (Tl.setTop (mkF m 3 #[.val (.ref b), .val (.int (Int32.ofNat (o + i))), .val (.ref d), .val (.int (Int32.ofNat (q + i))), .val (.int (Int32.ofNat len)), .val (.int (Int32.ofNat i)), z] [])) → ∃ (T' : State) (B' : Cell) (z' : Slot), Stand p l e { frames := 0, locals := 0, cells := 0, slots := 0 } s m #[.ref b, .int (Int32.ofNat o), .ref d, .int (Int32.ofNat q), .int (Int32.ofNat len)] below meth c T' ([] ++ copyLocs d q len) 0 0 ∧ Put d B' s₁ T' ∧ Laid B B' q (q + len) (fun j => Value.int (lo8 (cv A (o + (j - q))))) ∧
      Steps p.tables e below (s₁.setTop (entryFrame m #[.ref b, .int (Int32.ofNat o), .ref d, .int (Int32.ofNat q), .int (Int32.ofNat len)] 7)) (T'.setTop (mkF m 3 #[.val (.ref b), .val (.int (Int32.ofNat (o + len))), .val (.ref d), .val (.int (Int32.ofNat (q + len))), .val (.int (Int32.ofNat len)), .val (.int (Int32.ofNat len)), z'] [])) := by
    intro r
    induction r with
    | zero =>
      intro i hi z hz Tl Bk Xl pl fl cl
      have hil : i = len := by omega
      rw [hil] at Xl fl cl
      exact ⟨Tl, Bk, z, Xl, pl, fl, cl⟩
    | succ r ih =>
      intro i hi z hz Tl Bk Xl pl fl cl
      have all := X0.warmed.alike.symm.trans Xl.warmed.alike
      have hAl := hA0.keep all (pl.other hne hA0.1)
      have hBk := hB0.like all pl.1 fl.1 fl.2.1 fl.2.2.1
      have hlt : q + i < Bk.slots.size := by rw [fl.2.2.1]; omega
      have c3 : Steps p.tables e below (s₁.setTop (entryFrame m #[.ref b, .int (Int32.ofNat o), .ref d, .int (Int32.ofNat q), .int (Int32.ofNat len)] 7)) (Tl.setTop (mkF m 12 #[.val (.ref b), .val (.int (Int32.ofNat (o + i))), .val (.ref d), .val (.int (Int32.ofNat (q + i))), .val (.int (Int32.ofNat len)), .val (.int (Int32.ofNat i)), z] [.int (Int32.ofNat (o + i)), .ref b])) := cl.trans (by
        refine XS.iload Xl.here hexec rfl (hb hbytes d3) rfl ?_
        refine XS.iload Xl.here hexec rfl (hb hbytes d5) rfl ?_
        refine XS.icmpNo Xl.here hexec rfl (hb hbytes d7) rfl (ii_ge_f (lt32 (by omega) (by omega))) ?_
        refine XS.aloadN Xl.here hexec rfl (hb hbytes d10) rfl rfl ?_
        refine XS.iloadN Xl.here hexec rfl (hb hbytes d11) rfl ?_
        exact Steps.refl _)
      have c4 : Steps p.tables e below (s₁.setTop (entryFrame m #[.ref b, .int (Int32.ofNat o), .ref d, .int (Int32.ofNat q), .int (Int32.ofNat len)] 7)) (Tl.setTop (mkF m 13 #[.val (.ref b), .val (.int (Int32.ofNat (o + i))), .val (.ref d), .val (.int (Int32.ofNat (q + i))), .val (.int (Int32.ofNat len)), .val (.int (Int32.ofNat i)), z] [.int (cv A (o + i))])) := c3.trans (by
        refine Xl.aget hexec hAl rfl (hA.get (i := o + i) (by omega)) rfl rfl (hb hbytes d12) ?_
        exact Steps.refl _)
      have c5 : Steps p.tables e below (s₁.setTop (entryFrame m #[.ref b, .int (Int32.ofNat o), .ref d, .int (Int32.ofNat q), .int (Int32.ofNat len)] 7)) (Tl.setTop (mkF m 15 #[.val (.ref b), .val (.int (Int32.ofNat (o + i))), .val (.ref d), .val (.int (Int32.ofNat (q + i))), .val (.int (Int32.ofNat len)), .val (.int (Int32.ofNat i)), .val (.int (cv A (o + i)))] [])) := c4.trans (by
        refine XS.istoreS Xl.here hexec rfl (hb hbytes d13) rfl rfl hz ?_
        exact Steps.refl _)
      have c6 : Steps p.tables e below (s₁.setTop (entryFrame m #[.ref b, .int (Int32.ofNat o), .ref d, .int (Int32.ofNat q), .int (Int32.ofNat len)] 7)) (Tl.setTop (mkF m 31 #[.val (.ref b), .val (.int (Int32.ofNat (o + i))), .val (.ref d), .val (.int (Int32.ofNat (q + i))), .val (.int (Int32.ofNat len)), .val (.int (Int32.ofNat i)), .val (.int (cv A (o + i)))] [.int (lo8 (cv A (o + i))), .int (Int32.ofNat (q + i)), .ref d])) := c5.trans (by
        refine XS.iload Xl.here hexec rfl (hb hbytes d15) rfl ?_
        refine sipushV Xl.here hexec rfl 255 (hb hbytes d17) (by decide) ?_
        refine XS.icmpYes Xl.here hexec rfl (pc0 := 20) rfl (hb hbytes d20) rfl (ii_le_t (hp i (by omega))) (by decide) rfl ?_
        refine XS.aloadN Xl.here hexec rfl (hb hbytes d26) rfl rfl ?_
        refine XS.iloadN Xl.here hexec rfl (hb hbytes d27) rfl ?_
        refine XS.iload Xl.here hexec rfl (hb hbytes d28) rfl ?_
        refine i2b Xl.here hexec rfl (hb hbytes d30) rfl ?_
        exact Steps.refl _)
      obtain ⟨T7, X7, p7, st7⟩ := Xl.aput hexec hBk rfl hlt rfl (fits_lo8 (cv A (o + i))) (g := (mkF m 31 #[.val (.ref b), .val (.int (Int32.ofNat (o + i))), .val (.ref d), .val (.int (Int32.ofNat (q + i))), .val (.int (Int32.ofNat len)), .val (.int (Int32.ofNat i)), .val (.int (cv A (o + i)))] [.int (lo8 (cv A (o + i))), .int (Int32.ofNat (q + i)), .ref d])) rfl (rest := []) rfl (hb hbytes d31)
      have c8 : Steps p.tables e below (s₁.setTop (entryFrame m #[.ref b, .int (Int32.ofNat o), .ref d, .int (Int32.ofNat q), .int (Int32.ofNat len)] 7)) (T7.setTop (mkF m 32 #[.val (.ref b), .val (.int (Int32.ofNat (o + i))), .val (.ref d), .val (.int (Int32.ofNat (q + i))), .val (.int (Int32.ofNat len)), .val (.int (Int32.ofNat i)), .val (.int (cv A (o + i)))] [])) := c6.trans (st7 _ (Steps.refl _))
      have c9 : Steps p.tables e below (s₁.setTop (entryFrame m #[.ref b, .int (Int32.ofNat o), .ref d, .int (Int32.ofNat q), .int (Int32.ofNat len)] 7)) (T7.setTop (mkF m 3 #[.val (.ref b), .val (.int (Int32.ofNat (o + i) + 1)), .val (.ref d), .val (.int (Int32.ofNat (q + i) + 1)), .val (.int (Int32.ofNat len)), .val (.int (Int32.ofNat i + 1)), .val (.int (cv A (o + i)))] [])) := c8.trans (by
        refine iincV X7.here hexec rfl 1 (hb hbytes d32) (by decide) rfl rfl ?_
        refine iincV X7.here hexec rfl 1 (hb hbytes d35) (by decide) rfl rfl ?_
        refine iincV X7.here hexec rfl 1 (hb hbytes d38) (by decide) rfl rfl ?_
        refine XS.goto X7.here hexec rfl (pc0 := 41) rfl (hb hbytes d41) (by decide) rfl ?_
        exact Steps.refl _)
      have c10 : Steps p.tables e below (s₁.setTop (entryFrame m #[.ref b, .int (Int32.ofNat o), .ref d, .int (Int32.ofNat q), .int (Int32.ofNat len)] 7)) (T7.setTop (mkF m 3 #[.val (.ref b), .val (.int (Int32.ofNat (o + (i + 1)))), .val (.ref d), .val (.int (Int32.ofNat (q + (i + 1)))), .val (.int (Int32.ofNat len)), .val (.int (Int32.ofNat (i + 1))), .val (.int (cv A (o + i)))] [])) := by
        have := c9
        rw [succ32, succ32, succ32] at this
        exact this
      exact ih (i + 1) (by omega) _ (Or.inr ⟨_, rfl, rfl⟩) T7 _ (by rw [copyLocs_step, ← List.append_assoc]; exact X7) (pl.trans p7) (fl.step (by omega) hlt (by simp)) c10
  obtain ⟨T9, B9, z9, X9, p9, f9, g9⟩ := loop len 0 (by omega) .unset (Or.inl rfl) s₁ B (by simpa [copyLocs] using X0) ⟨hB0.1, fun _ _ => rfl, rfl⟩ (Laid.zero _ _ _) c2
  have c11 : Steps p.tables e below (s₁.setTop (entryFrame m #[.ref b, .int (Int32.ofNat o), .ref d, .int (Int32.ofNat q), .int (Int32.ofNat len)] 7)) (T9.setTop (mkF m 46 #[.val (.ref b), .val (.int (Int32.ofNat (o + len))), .val (.ref d), .val (.int (Int32.ofNat (q + len))), .val (.int (Int32.ofNat len)), .val (.int (Int32.ofNat len)), z9] [.int (Int32.ofNat len)])) := g9.trans (by
    refine XS.iload X9.here hexec rfl (hb hbytes d3) rfl ?_
    refine XS.iload X9.here hexec rfl (hb hbytes d5) rfl ?_
    refine XS.icmpYes X9.here hexec rfl (pc0 := 7) rfl (hb hbytes d7) rfl (ii_ge_t (nlt32 (by omega) (Nat.le_refl _))) (by decide) rfl ?_
    refine XS.iload X9.here hexec rfl (hb hbytes d44) rfl ?_
    exact Steps.refl _)
  exact ⟨T9, some (.int (Int32.ofNat len)), _, _, _, X9, by simp, rfl, rfl, (fun h => by cases h), ⟨rfl, B9, p9.from hh0, f9⟩, fun fs hl => c11.trans (X9.ireturnOut hexec hret rfl (Or.inl rfl) (hb hbytes d46) hl)⟩
end Cmp5
namespace Cmp3
def yN : MethodName := ⟨"java/lang/StringUTF16", "compress", "([CII)[B"⟩
abbrev yB : ByteArray := jdk_52_method_16_code
theorem d0 : decode yB 0 = .ok (.iload_n 2, 1) := by decide +kernel
theorem d1 : decode yB 1 = .ok (.newarray .byte, 2) := by decide +kernel
theorem d3 : decode yB 3 = .ok (.astore_n 3, 1) := by decide +kernel
theorem d4 : decode yB 4 = .ok (.aload_n 0, 1) := by decide +kernel
theorem d5 : decode yB 5 = .ok (.iload_n 1, 1) := by decide +kernel
theorem d6 : decode yB 6 = .ok (.aload_n 3, 1) := by decide +kernel
theorem d7 : decode yB 7 = .ok (.iconst 0, 1) := by decide +kernel
theorem d8 : decode yB 8 = .ok (.iload_n 2, 1) := by decide +kernel
theorem d9 : decode yB 9 = .ok (.invokestatic 115, 3) := by decide +kernel
theorem d12 : decode yB 12 = .ok (.istore 4, 2) := by decide +kernel
theorem d14 : decode yB 14 = .ok (.iload 4, 2) := by decide +kernel
theorem d16 : decode yB 16 = .ok (.iload_n 2, 1) := by decide +kernel
theorem d17 : decode yB 17 = .ok (.if_icmp (.eq) 40, 3) := by decide +kernel
theorem d57 : decode yB 57 = .ok (.aload_n 3, 1) := by decide +kernel
theorem d58 : decode yB 58 = .ok (.areturn, 1) := by decide +kernel
def site : List Cond := [.arrayClass .byte, Cmp5.tab] ++ staticW U16 115 Cmp5.yN
def tab : Cond := tabOf yN yB 6 (some (.array .byte)) site
def P (b : Addr) (A : Cell) (o len : Nat) (args : Array Value) (s : State) : Prop := args = #[.ref b, .int (Int32.ofNat o), .int (Int32.ofNat len)] ∧ Ch b A s ∧ o + len ≤ A.slots.size ∧ len ≤ 536870912 ∧ ∀ i, i < len → ¬ 255 < cv A (o + i)
def E (b : Addr) (A : Cell) (o len : Nat) (r : Option Value) (s u : State) : Prop := NewArr .byte "[B" len (fun j => .int (lo8 (cv A (o + j)))) r s u ∧ u.heap.size = s.heap.size + 1
/-- no char of the range above 255: a new byte[] of their low bytes -/
theorem law (l : Launch) (b : Addr) (A : Cell) (o len : Nat) : Law l yN 3 3 1 18 yB 6 (some (.array .byte)) site (P b A o len) (E b A o len) [] 1 len := by
  refine Law.of_walk (plainFor_of_name (by decide +kernel)) (by decide +kernel) (by decide +kernel) (by decide) (fun _ _ h => by rw [h.1]; rfl) (fun _ U U' hal hh h => ⟨h.1, h.2.1.mv hal hh, h.2.2⟩) (fun r U U' V V' h1 hal h2 h => ⟨NewArr.mv r U U' V V' h1 hal h2 h.1, by rw [h1, h2]; exact h.2⟩) ?_
  intro p e s m args below meth c s₁ X0 hexec hbytes hml hret hlk hnm hown hh0 W hP
  obtain ⟨rfl, hA, l1, l2, hp⟩ := hP
  have a31 := hA.1.2.2.2
  have c1 : Steps p.tables e below (s₁.setTop (entryFrame m #[.ref b, .int (Int32.ofNat o), .int (Int32.ofNat len)] 6)) (s₁.setTop (mkF m 0 #[.val (.ref b), .val (.int (Int32.ofNat o)), .val (.int (Int32.ofNat len)), .unset, .unset, .unset] [])) := entry rfl
  have c2 : Steps p.tables e below (s₁.setTop (entryFrame m #[.ref b, .int (Int32.ofNat o), .int (Int32.ofNat len)] 6)) (s₁.setTop (mkF m 1 #[.val (.ref b), .val (.int (Int32.ofNat o)), .val (.int (Int32.ofNat len)), .unset, .unset, .unset] [.int (Int32.ofNat len)])) := c1.trans (by
    refine XS.iloadN X0.here hexec rfl (hb hbytes d0) rfl ?_
    exact Steps.refl _)
  obtain ⟨T3, B3, X3, ba3, bs3, bv3, bh3, bf3, st3⟩ := X0.anew hexec (atype := .byte) (wk W (.arrayClass .byte)) rfl (by show len * 1 ≤ _; omega) (by omega) (g := (mkF m 1 #[.val (.ref b), .val (.int (Int32.ofNat o)), .val (.int (Int32.ofNat len)), .unset, .unset, .unset] [.int (Int32.ofNat len)])) rfl (hb hbytes d1) (rest := []) rfl (Nat.le_refl _) (by show 0 + len ≤ len; omega)
  rw [hh0] at ba3 st3
  have kp3 : XT.Kept s T3 := (XT.Kept.of_eq hh0).push bh3
  have hA3 := hA.keep X3.warmed.alike (kp3 _ _ hA.1.1)
  have hne : b ≠ s.heap.size := hA.1.ne
  have c4 : Steps p.tables e below (s₁.setTop (entryFrame m #[.ref b, .int (Int32.ofNat o), .int (Int32.ofNat len)] 6)) (T3.setTop (mkF m 3 #[.val (.ref b), .val (.int (Int32.ofNat o)), .val (.int (Int32.ofNat len)), .unset, .unset, .unset] [.ref s.heap.size])) := c2.trans (st3 _ (Steps.refl _))
  have c5 : Steps p.tables e below (s₁.setTop (entryFrame m #[.ref b, .int (Int32.ofNat o), .int (Int32.ofNat len)] 6)) (T3.setTop (mkF m 9 #[.val (.ref b), .val (.int (Int32.ofNat o)), .val (.int (Int32.ofNat len)), .val (.ref s.heap.size), .unset, .unset] [.int (Int32.ofNat len), .int 0, .ref s.heap.size, .int (Int32.ofNat o), .ref b])) := c4.trans (by
    refine XS.astoreN X3.here hexec rfl (hb hbytes d3) rfl rfl rfl ?_
    refine XS.aloadN X3.here hexec rfl (hb hbytes d4) rfl rfl ?_
    refine XS.iloadN X3.here hexec rfl (hb hbytes d5) rfl ?_
    refine XS.aloadN X3.here hexec rfl (hb hbytes d6) rfl rfl ?_
    refine iconstV X3.here hexec rfl 0 (hb hbytes d7) (by decide) ?_
    refine XS.iloadN X3.here hexec rfl (hb hbytes d8) rfl ?_
    exact Steps.refl _)
  obtain ⟨v6, T6, X6, E6, g6⟩ := X3.callS hexec (Cmp5.law l b A s.heap.size B3 o 0 len) hown (wks W (staticW U16 115 Cmp5.yN)) (wk W Cmp5.tab) (W := 0) (Nat.le_of_ble_eq_true rfl) (Nat.le_of_ble_eq_true rfl) (Nat.le_refl _) (by show 0 + len + 0 ≤ len; omega) (g := (mkF m 9 #[.val (.ref b), .val (.int (Int32.ofNat o)), .val (.int (Int32.ofNat len)), .val (.ref s.heap.size), .unset, .unset] [.int (Int32.ofNat len), .int (Int32.ofNat 0), .ref s.heap.size, .int (Int32.ofNat o), .ref b])) rfl (by rw [hml]; rfl) c5 (argsL := [.ref b, .int (Int32.ofNat o), .ref s.heap.size, .int (Int32.ofNat 0), .int (Int32.ofNat len)]) (rest := []) rfl rfl (by show 2 * 0 + 0 ≤ _; decide) (hb hbytes d9) (⟨rfl, hA3, ba3, hne, l1, by rw [bs3]; simp, hp⟩)
  obtain ⟨rfl, B6, p6, f6⟩ := E6
  have c7 : Steps p.tables e below (s₁.setTop (entryFrame m #[.ref b, .int (Int32.ofNat o), .int (Int32.ofNat len)] 6)) (T6.setTop (mkF m 12 #[.val (.ref b), .val (.int (Int32.ofNat o)), .val (.int (Int32.ofNat len)), .val (.ref s.heap.size), .unset, .unset] [.int (Int32.ofNat len)])) := g6
  have c8 : Steps p.tables e below (s₁.setTop (entryFrame m #[.ref b, .int (Int32.ofNat o), .int (Int32.ofNat len)] 6)) (T6.setTop (mkF m 58 #[.val (.ref b), .val (.int (Int32.ofNat o)), .val (.int (Int32.ofNat len)), .val (.ref s.heap.size), .val (.int (Int32.ofNat len)), .unset] [.ref s.heap.size])) := c7.trans (by
    refine XS.istore X6.here hexec rfl (hb hbytes d12) rfl rfl ?_
    refine XS.iload X6.here hexec rfl (hb hbytes d14) rfl ?_
    refine XS.iloadN X6.here hexec rfl (hb hbytes d16) rfl ?_
    refine XS.icmpYes X6.here hexec rfl (pc0 := 17) rfl (hb hbytes d17) rfl (ii_eq_t rfl) (by decide) rfl ?_
    refine XS.aloadN X6.here hexec rfl (hb hbytes d57) rfl rfl ?_
    exact Steps.refl _)
  have X8 := X6.wide (L' := []) (cells' := 1) (slots' := len) (fun x hx hlt => by
    simp only [List.nil_append, copyLocs, List.mem_map, List.mem_range] at hx
    obtain ⟨i, -, rfl⟩ := hx
    exact absurd hlt (Nat.lt_irrefl _)) (Nat.le_refl _) (by omega)
  exact ⟨T6, some (.ref s.heap.size), _, _, _, X8, rfl, rfl, rfl, (fun h => by cases h), ⟨⟨rfl, B6, ba3.like (X3.warmed.alike.symm.trans X6.warmed.alike) p6.1 f6.1 f6.2.1 f6.2.2.1, f6.2.1.trans bv3, by rw [X6.warmed.alike.findClass, f6.1]; exact bf3, by rw [f6.2.2.1, bs3]; simp, fun j hj => by rw [f6.2.2.2 j, if_pos (by omega)]; rfl, kp3.put p6 (Nat.le_refl _)⟩, by rw [p6.2.2, bh3, hh0]; simp⟩, fun fs hl => c8.trans (X8.areturnOut hexec rfl hret rfl (hb hbytes d58) hl)⟩
end Cmp3
namespace CodL
def yN : MethodName := ⟨"java/lang/StringUTF16", "coderFromArrayLen", "([BI)B"⟩
abbrev yB : ByteArray := jdk_52_method_15_code
theorem d0 : decode yB 0 = .ok (.iload_n 1, 1) := by decide +kernel
theorem d1 : decode yB 1 = .ok (.aload_n 0, 1) := by decide +kernel
theorem d2 : decode yB 2 = .ok (.arraylength, 1) := by decide +kernel
theorem d3 : decode yB 3 = .ok (.isub, 1) := by decide +kernel
theorem d4 : decode yB 4 = .ok (.bipush 31, 2) := by decide +kernel
theorem d6 : decode yB 6 = .ok (.iushr, 1) := by decide +kernel
theorem d7 : decode yB 7 = .ok (.i2b, 1) := by decide +kernel
theorem d8 : decode yB 8 = .ok (.ireturn, 1) := by decide +kernel
def site : List Cond := []
def tab : Cond := tabOf yN yB 2 (some .byte) site
def P (d : Addr) (B : Cell) (args : Array Value) (s : State) : Prop := args = #[.ref d, .int (Int32.ofNat B.slots.size)] ∧ Arr .byte d B s
def E (r : Option Value) (s u : State) : Prop := XT.PureE (some (.int 0)) r s u
/-- an array as long as the number of chars: LATIN1 -/
theorem law (l : Launch) (d : Addr) (B : Cell) : Law l yN 2 2 0 0 yB 2 (some .byte) site (P d B) E [] 0 0 := by
  refine Law.of_walk (plainFor_of_name (by decide +kernel)) (by decide +kernel) (by decide +kernel) (by decide) (fun _ _ h => by rw [h.1]; rfl) (fun _ U U' hal hh h => ⟨h.1, h.2.mv hal hh⟩) (fun r U U' V V' h1 hal h2 h => XT.PureE.mv r U U' V V' h1 hal h2 h) ?_
  intro p e s m args below meth c s₁ X0 hexec hbytes hml hret hlk hnm hown hh0 W hP
  obtain ⟨rfl, hB⟩ := hP
  have hB0 := hB.mv X0.warmed.alike hh0
  have c1 : Steps p.tables e below (s₁.setTop (entryFrame m #[.ref d, .int (Int32.ofNat B.slots.size)] 2)) (s₁.setTop (mkF m 0 #[.val (.ref d), .val (.int (Int32.ofNat B.slots.size))] [])) := entry rfl
  have c2 : Steps p.tables e below (s₁.setTop (entryFrame m #[.ref d, .int (Int32.ofNat B.slots.size)] 2)) (s₁.setTop (mkF m 2 #[.val (.ref d), .val (.int (Int32.ofNat B.slots.size))] [.ref d, .int (Int32.ofNat B.slots.size)])) := c1.trans (by
    refine XS.iloadN X0.here hexec rfl (hb hbytes d0) rfl ?_
    refine XS.aloadN X0.here hexec rfl (hb hbytes d1) rfl rfl ?_
    exact Steps.refl _)
  have c3 : Steps p.tables e below (s₁.setTop (entryFrame m #[.ref d, .int (Int32.ofNat B.slots.size)] 2)) (s₁.setTop (mkF m 8 #[.val (.ref d), .val (.int (Int32.ofNat B.slots.size))] [.int (lo8 (ushr (Int32.ofNat B.slots.size - Int32.ofNat B.slots.size) 31))])) := c2.trans (by
    refine X0.alen hexec hB0 rfl rfl (hb hbytes d2) ?_
    refine XS.isub X0.here hexec rfl (hb hbytes d3) rfl ?_
    refine bipushV X0.here hexec rfl 31 (hb hbytes d4) (by decide) ?_
    refine iushr X0.here hexec rfl (hb hbytes d6) rfl ?_
    refine i2b X0.here hexec rfl (hb hbytes d7) rfl ?_
    exact Steps.refl _)
  have e0 : lo8 (ushr (Int32.ofNat B.slots.size - Int32.ofNat B.slots.size) 31) = 0 := by rw [Int32.sub_self]; decide
  rw [e0] at c3
  exact ⟨s₁, some (.int 0), _, _, _, X0, rfl, rfl, rfl, (fun h => by cases h), ⟨rfl, hh0⟩, fun fs hl => c3.trans (X0.ireturnOut hexec hret rfl (Or.inr (Or.inr (Or.inl rfl))) (hb hbytes d8) hl)⟩
end CodL
/-- the String at a is Latin-1 over a new byte[] (the heap's one new cell): the low bytes of the len chars of A from o on; every cell but a is kept -/
def Got (a : Addr) (D : Cell) (fV fC : Field) (A : Cell) (o len : Nat) (r : Option Value) (s u : State) : Prop := r = none ∧ ∃ D' V : Cell, Blank "java/lang/String" a D' u ∧ Same D D' [fV.slot, fC.slot] ∧ D'.slots[fV.slot]? = some (.ref s.heap.size) ∧ D'.slots[fC.slot]? = some (.int 0) ∧ Arr .byte s.heap.size V u ∧ V.vm = .none ∧ u.vm.findClass "[B" = some V.cls ∧ V.slots.size = len ∧ (∀ j, j < len → V.slots[j]? = some (.int (lo8 (cv A (o + j))))) ∧ (∀ (y : Addr) (c : Cell), y ≠ a → s.heap[y]? = some c → u.heap[y]? = some c) ∧ u.heap.size = s.heap.size + 1
theorem Got.mv {a : Addr} {D A : Cell} {fV fC : Field} {o len : Nat} : ∀ r (U U' V V' : State), U'.heap = U.heap → V.vm.Alike V'.vm → V'.heap = V.heap → Got a D fV fC A o len r U V → Got a D fV fC A o len r U' V' :=
  fun r U U' V V' h1 hal h2 ⟨e0, D', X, a1, a2, a3, a4, a5, a6, a7, a8, a9, a10, a11⟩ => ⟨e0, D', X, a1.mv hal h2, a2, by rw [h1]; exact a3, a4, by rw [h1]; exact a5.mv hal h2, a6, by rw [hal.findClass]; exact a7, a8, a9, by rw [h1, h2]; exact a10, by rw [h1, h2]; exact a11⟩
namespace New4
def yN : MethodName := ⟨"java/lang/String", "<init>", "([CIILjava/lang/Void;)V"⟩
abbrev yB : ByteArray := jdk_42_method_149_code
theorem d0 : decode yB 0 = .ok (.aload_n 0, 1) := by decide +kernel
theorem d1 : decode yB 1 = .ok (.invokespecial 1, 3) := by decide +kernel
theorem d4 : decode yB 4 = .ok (.iload_n 3, 1) := by decide +kernel
theorem d5 : decode yB 5 = .ok (.ifCond (.ne) 22, 3) := by decide +kernel
theorem d27 : decode yB 27 = .ok (.getstatic 38, 3) := by decide +kernel
theorem d30 : decode yB 30 = .ok (.ifCond (.eq) 28, 3) := by decide +kernel
theorem d33 : decode yB 33 = .ok (.aload_n 1, 1) := by decide +kernel
theorem d34 : decode yB 34 = .ok (.iload_n 2, 1) := by decide +kernel
theorem d35 : decode yB 35 = .ok (.iload_n 3, 1) := by decide +kernel
theorem d36 : decode yB 36 = .ok (.invokestatic 177, 3) := by decide +kernel
theorem d39 : decode yB 39 = .ok (.astore 5, 2) := by decide +kernel
theorem d41 : decode yB 41 = .ok (.aload_n 0, 1) := by decide +kernel
theorem d42 : decode yB 42 = .ok (.aload 5, 2) := by decide +kernel
theorem d44 : decode yB 44 = .ok (.iload_n 3, 1) := by decide +kernel
theorem d45 : decode yB 45 = .ok (.invokestatic 47, 3) := by decide +kernel
theorem d48 : decode yB 48 = .ok (.putfield 15, 3) := by decide +kernel
theorem d51 : decode yB 51 = .ok (.aload_n 0, 1) := by decide +kernel
theorem d52 : decode yB 52 = .ok (.aload 5, 2) := by decide +kernel
theorem d54 : decode yB 54 = .ok (.putfield 9, 3) := by decide +kernel
theorem d57 : decode yB 57 = .ok (.return_, 1) := by decide +kernel
def site : List Cond := [.fieldLink "java/lang/String" 38 "java/lang/String" "COMPACT_STRINGS" "Z", Cmp3.tab, CodL.tab, .laysFinal "java/lang/String" "java/lang/String" "value" "[B", .fieldLink "java/lang/String" 9 "java/lang/String" "value" "[B", .laysFinal "java/lang/String" "java/lang/String" "coder" "B", .fieldLink "java/lang/String" 15 "java/lang/String" "coder" "B"] ++ objW "java/lang/String" 1 ++ staticW "java/lang/String" 177 Cmp3.yN ++ staticW "java/lang/String" 47 CodL.yN
def tab : Cond := tabOf yN yB 6 none site
def P (a : Addr) (D : Cell) (fV fC : Field) (b : Addr) (A : Cell) (z : Int32) (o len : Nat) (args : Array Value) (s : State) : Prop := args = #[.ref a, .ref b, .int (Int32.ofNat o), .int (Int32.ofNat len), .null] ∧ Blank "java/lang/String" a D s ∧ Found "java/lang/String" "value" "[B" fV s ∧ Found "java/lang/String" "coder" "B" fC s ∧ Ch b A s ∧ StaticIs s "java/lang/String" "COMPACT_STRINGS" "Z" (.int z) ∧ ¬ z = 0 ∧ 0 < len ∧ o + len ≤ A.slots.size ∧ len ≤ 536870912 ∧ ∀ i, i < len → ¬ 255 < cv A (o + i)
def E (a : Addr) (D : Cell) (fV fC : Field) (A : Cell) (o len : Nat) (r : Option Value) (s u : State) : Prop := Got a D fV fC A o len r s u
/-- len > 0, no char of the range above 255: a Latin-1 String of their low bytes -/
theorem law (l : Launch) (a : Addr) (D : Cell) (fV fC : Field) (b : Addr) (A : Cell) (z : Int32) (o len : Nat) : Law l yN 5 4 2 35 yB 6 none site (P a D fV fC b A z o len) (E a D fV fC A o len) [⟨a, fC.slot⟩, ⟨a, fV.slot⟩] 1 len := by
  refine Law.of_walk (plainFor_of_name (by decide +kernel)) (by decide +kernel) (by decide +kernel) (by decide) (fun _ _ h => by rw [h.1]; rfl) (fun _ U U' hal hh h => ⟨h.1, h.2.1.mv hal hh, h.2.2.1.al hal, h.2.2.2.1.al hal, h.2.2.2.2.1.mv hal hh, h.2.2.2.2.2.1.there hal hh, h.2.2.2.2.2.2⟩) (fun r U U' V V' h1 hal h2 h => Got.mv r U U' V V' h1 hal h2 h) ?_
  intro p e s m args below meth c s₁ X0 hexec hbytes hml hret hlk hnm hown hh0 W hP
  obtain ⟨rfl, hB, f1, f2, hA, s1, hz, l0, l1, l2, hp⟩ := hP
  have a31 := hA.1.2.2.2
  have c1 : Steps p.tables e below (s₁.setTop (entryFrame m #[.ref a, .ref b, .int (Int32.ofNat o), .int (Int32.ofNat len), .null] 6)) (s₁.setTop (mkF m 0 #[.val (.ref a), .val (.ref b), .val (.int (Int32.ofNat o)), .val (.int (Int32.ofNat len)), .val .null, .unset] [])) := entry rfl
  have c2 : Steps p.tables e below (s₁.setTop (entryFrame m #[.ref a, .ref b, .int (Int32.ofNat o), .int (Int32.ofNat len), .null] 6)) (s₁.setTop (mkF m 1 #[.val (.ref a), .val (.ref b), .val (.int (Int32.ofNat o)), .val (.int (Int32.ofNat len)), .val .null, .unset] [.ref a])) := c1.trans (by
    refine XS.aloadN X0.here hexec rfl (hb hbytes d0) rfl rfl ?_
    exact Steps.refl _)
  obtain ⟨T3, X3, q3, st3⟩ := X0.oinit hexec hown (wks W (objW "java/lang/String" 1)) (g := (mkF m 1 #[.val (.ref a), .val (.ref b), .val (.int (Int32.ofNat o)), .val (.int (Int32.ofNat len)), .val .null, .unset] [.ref a])) rfl (by rw [hml]; rfl) (rest := []) rfl (hb hbytes d1) (W := 0) (by show 2 * 0 + 0 ≤ _; decide) (Nat.le_of_ble_eq_true rfl) (Nat.le_of_ble_eq_true rfl)
  have hh3 := q3.trans hh0
  have c4 : Steps p.tables e below (s₁.setTop (entryFrame m #[.ref a, .ref b, .int (Int32.ofNat o), .int (Int32.ofNat len), .null] 6)) (T3.setTop (mkF m 27 #[.val (.ref a), .val (.ref b), .val (.int (Int32.ofNat o)), .val (.int (Int32.ofNat len)), .val .null, .unset] [])) := (c2.trans (st3 _ (Steps.refl _))).trans (by
    refine XS.iloadN X3.here hexec rfl (hb hbytes d4) rfl ?_
    refine XS.ifYes X3.here hexec rfl (pc0 := 5) rfl (hb hbytes d5) rfl (i0_ne_t (nz32 (by omega) l0)) (by decide) rfl ?_
    exact Steps.refl _)
  obtain ⟨T5, X5, q5, st5⟩ := X3.sget hexec hown (wk W (.fieldLink "java/lang/String" 38 "java/lang/String" "COMPACT_STRINGS" "Z")) s1 (fun _ _ h => by rw [hh3]; exact h) (g := (mkF m 27 #[.val (.ref a), .val (.ref b), .val (.int (Int32.ofNat o)), .val (.int (Int32.ofNat len)), .val .null, .unset] [])) rfl (hb hbytes d27)
  have hh5 := q5.trans hh3
  have c6 : Steps p.tables e below (s₁.setTop (entryFrame m #[.ref a, .ref b, .int (Int32.ofNat o), .int (Int32.ofNat len), .null] 6)) (T5.setTop (mkF m 30 #[.val (.ref a), .val (.ref b), .val (.int (Int32.ofNat o)), .val (.int (Int32.ofNat len)), .val .null, .unset] [.int z])) := c4.trans (st5 _ (Steps.refl _))
  have c7 : Steps p.tables e below (s₁.setTop (entryFrame m #[.ref a, .ref b, .int (Int32.ofNat o), .int (Int32.ofNat len), .null] 6)) (T5.setTop (mkF m 36 #[.val (.ref a), .val (.ref b), .val (.int (Int32.ofNat o)), .val (.int (Int32.ofNat len)), .val .null, .unset] [.int (Int32.ofNat len), .int (Int32.ofNat o), .ref b])) := c6.trans (by
    refine XS.ifNo X5.here hexec rfl (hb hbytes d30) rfl (i0_eq_f hz) ?_
    refine XS.aloadN X5.here hexec rfl (hb hbytes d33) rfl rfl ?_
    refine XS.iloadN X5.here hexec rfl (hb hbytes d34) rfl ?_
    refine XS.iloadN X5.here hexec rfl (hb hbytes d35) rfl ?_
    exact Steps.refl _)
  obtain ⟨v8, T8, X8, E8, g8⟩ := X5.callS hexec (Cmp3.law l b A o len) hown (wks W (staticW "java/lang/String" 177 Cmp3.yN)) (wk W Cmp3.tab) (W := 0) (Nat.le_of_ble_eq_true rfl) (Nat.le_of_ble_eq_true rfl) (Nat.le_refl _) (by show 0 + len ≤ len; omega) (g := (mkF m 36 #[.val (.ref a), .val (.ref b), .val (.int (Int32.ofNat o)), .val (.int (Int32.ofNat len)), .val .null, .unset] [.int (Int32.ofNat len), .int (Int32.ofNat o), .ref b])) rfl (by rw [hml]; rfl) c7 (argsL := [.ref b, .int (Int32.ofNat o), .int (Int32.ofNat len)]) (rest := []) rfl rfl (by show 2 * 0 + 0 ≤ _; decide) (hb hbytes d36) (⟨rfl, hA.mv X5.warmed.alike hh5, l1, l2, hp⟩)
  obtain ⟨e8, z8⟩ := E8
  obtain ⟨rfl, N, n1, n2, n3, n4, n5, n6⟩ := NewArr.mv _ T5 s _ _ hh5.symm (Vm.Alike.refl _) rfl e8
  rw [hh5] at z8
  have hB1 := hB.keep X8.warmed.alike (n6 _ _ hB.1)
  have hne : s.heap.size ≠ a := (Nat.ne_of_lt (Array.getElem?_eq_some_iff.mp hB.1).1).symm
  have c9 : Steps p.tables e below (s₁.setTop (entryFrame m #[.ref a, .ref b, .int (Int32.ofNat o), .int (Int32.ofNat len), .null] 6)) (T8.setTop (mkF m 39 #[.val (.ref a), .val (.ref b), .val (.int (Int32.ofNat o)), .val (.int (Int32.ofNat len)), .val .null, .unset] [.ref s.heap.size])) := g8
  have c10 : Steps p.tables e below (s₁.setTop (entryFrame m #[.ref a, .ref b, .int (Int32.ofNat o), .int (Int32.ofNat len), .null] 6)) (T8.setTop (mkF m 45 #[.val (.ref a), .val (.ref b), .val (.int (Int32.ofNat o)), .val (.int (Int32.ofNat len)), .val .null, .val (.ref s.heap.size)] [.int (Int32.ofNat N.slots.size), .ref s.heap.size, .ref a])) := by
    have hc : Steps p.tables e below (s₁.setTop (entryFrame m #[.ref a, .ref b, .int (Int32.ofNat o), .int (Int32.ofNat len), .null] 6)) (T8.setTop (mkF m 45 #[.val (.ref a), .val (.ref b), .val (.int (Int32.ofNat o)), .val (.int (Int32.ofNat len)), .val .null, .val (.ref s.heap.size)] [.int (Int32.ofNat len), .ref s.heap.size, .ref a])) := c9.trans (by
      refine XS.astore X8.here hexec rfl (hb hbytes d39) rfl rfl rfl ?_
      refine XS.aloadN X8.here hexec rfl (hb hbytes d41) rfl rfl ?_
      refine XS.aload X8.here hexec rfl (hb hbytes d42) rfl rfl ?_
      refine XS.iloadN X8.here hexec rfl (hb hbytes d44) rfl ?_
      exact Steps.refl _)
    rw [n4]; exact hc
  obtain ⟨v11, T11, X11, E11, g11⟩ := X8.callS hexec (CodL.law l s.heap.size N) hown (wks W (staticW "java/lang/String" 47 CodL.yN)) (wk W CodL.tab) (W := 1) (Nat.le_of_ble_eq_true rfl) (Nat.le_of_ble_eq_true rfl) (Nat.le_refl _) (by show 0 + len + 0 ≤ len; omega) (g := (mkF m 45 #[.val (.ref a), .val (.ref b), .val (.int (Int32.ofNat o)), .val (.int (Int32.ofNat len)), .val .null, .val (.ref s.heap.size)] [.int (Int32.ofNat N.slots.size), .ref s.heap.size, .ref a])) rfl (by rw [hml]; rfl) c10 (argsL := [.ref s.heap.size, .int (Int32.ofNat N.slots.size)]) (rest := [.ref a]) rfl rfl (by show 2 * 0 + (1 + 0) ≤ _; decide) (hb hbytes d45) (⟨rfl, n1⟩)
  obtain ⟨rfl, q11⟩ := E11
  have hB11 := hB1.mv (X8.warmed.alike.symm.trans X11.warmed.alike) q11
  have c12 : Steps p.tables e below (s₁.setTop (entryFrame m #[.ref a, .ref b, .int (Int32.ofNat o), .int (Int32.ofNat len), .null] 6)) (T11.setTop (mkF m 48 #[.val (.ref a), .val (.ref b), .val (.int (Int32.ofNat o)), .val (.int (Int32.ofNat len)), .val .null, .val (.ref s.heap.size)] [.int 0, .ref a])) := g11
  obtain ⟨T13, X13, p13, bl13, sl13, st13⟩ := X11.finit hexec hown (wk W (.fieldLink "java/lang/String" 15 "java/lang/String" "coder" "B")) (Or.inr ⟨_, (wk W (.laysFinal "java/lang/String" "java/lang/String" "coder" "B"))⟩) (Or.inl ⟨rfl, hnm⟩) f2 (Or.inl rfl) hB11 (t := .byte) (by decide +kernel) rfl (g := (mkF m 48 #[.val (.ref a), .val (.ref b), .val (.int (Int32.ofNat o)), .val (.int (Int32.ofNat len)), .val .null, .val (.ref s.heap.size)] [.int 0, .ref a])) rfl (rest := []) rfl (hb hbytes d48)
  have c14 : Steps p.tables e below (s₁.setTop (entryFrame m #[.ref a, .ref b, .int (Int32.ofNat o), .int (Int32.ofNat len), .null] 6)) (T13.setTop (mkF m 54 #[.val (.ref a), .val (.ref b), .val (.int (Int32.ofNat o)), .val (.int (Int32.ofNat len)), .val .null, .val (.ref s.heap.size)] [.ref s.heap.size, .ref a])) := (c12.trans (st13 _ (Steps.refl _))).trans (by
    refine XS.aloadN X13.here hexec rfl (hb hbytes d51) rfl rfl ?_
    refine XS.aload X13.here hexec rfl (hb hbytes d52) rfl rfl ?_
    exact Steps.refl _)
  obtain ⟨T15, X15, p15, bl15, sl15, st15⟩ := X13.finit hexec hown (wk W (.fieldLink "java/lang/String" 9 "java/lang/String" "value" "[B")) (Or.inr ⟨_, (wk W (.laysFinal "java/lang/String" "java/lang/String" "value" "[B"))⟩) (Or.inl ⟨rfl, hnm⟩) f1 (Or.inl rfl) bl13 (t := (.array .byte)) (by decide +kernel) rfl (g := (mkF m 54 #[.val (.ref a), .val (.ref b), .val (.int (Int32.ofNat o)), .val (.int (Int32.ofNat len)), .val .null, .val (.ref s.heap.size)] [.ref s.heap.size, .ref a])) rfl (rest := []) rfl (hb hbytes d54)
  have c16 : Steps p.tables e below (s₁.setTop (entryFrame m #[.ref a, .ref b, .int (Int32.ofNat o), .int (Int32.ofNat len), .null] 6)) (T15.setTop (mkF m 57 #[.val (.ref a), .val (.ref b), .val (.int (Int32.ofNat o)), .val (.int (Int32.ofNat len)), .val .null, .val (.ref s.heap.size)] [])) := c14.trans (st15 _ (Steps.refl _))
  have ap := apart (Or.inr ⟨_, (wk W (.laysFinal "java/lang/String" "java/lang/String" "value" "[B"))⟩) (Or.inr ⟨_, (wk W (.laysFinal "java/lang/String" "java/lang/String" "coder" "B"))⟩) f1 f2 (t₁ := .array .byte) (t₂ := .byte) (by decide +kernel) (by decide +kernel) (by decide)
  have al := X8.warmed.alike.symm.trans X15.warmed.alike
  have n7 : T11.heap[s.heap.size]? = some N := by rw [q11]; exact n1.1
  exact ⟨T15, none, _, _, _, X15, by simp, rfl, by omega, (fun _ => rfl), ⟨rfl, _, N, bl15, ((Same.refl D _).set _ (by simp)).set _ (by simp), sl15, (Cell.slots_setSlot_ne _ ap).trans sl13, n1.keep al (p15.other hne (p13.other hne n7)), n2, by rw [al.findClass]; exact n3, n4, n5, fun y c h1 h2 => p15.other h1 (p13.other h1 (by rw [q11]; exact n6 y c h2)), by rw [p15.2.2, p13.2.2, q11]; exact z8⟩, fun fs hl => c16.trans (X15.returnOut hexec hret (hb hbytes d57) hl)⟩
end New4
namespace New1
def yN : MethodName := ⟨"java/lang/String", "<init>", "([C)V"⟩
abbrev yB : ByteArray := jdk_42_method_3_code
theorem d0 : decode yB 0 = .ok (.aload_n 0, 1) := by decide +kernel
theorem d1 : decode yB 1 = .ok (.aload_n 1, 1) := by decide +kernel
theorem d2 : decode yB 2 = .ok (.iconst 0, 1) := by decide +kernel
theorem d3 : decode yB 3 = .ok (.aload_n 1, 1) := by decide +kernel
theorem d4 : decode yB 4 = .ok (.arraylength, 1) := by decide +kernel
theorem d5 : decode yB 5 = .ok (.aconst_null, 1) := by decide +kernel
theorem d6 : decode yB 6 = .ok (.invokespecial 27, 3) := by decide +kernel
theorem d9 : decode yB 9 = .ok (.return_, 1) := by decide +kernel
def site : List Cond := [New4.tab] ++ initW "java/lang/String" 27 New4.yN
def tab : Cond := tabOf yN yB 2 none site
def P (a : Addr) (D : Cell) (fV fC : Field) (b : Addr) (A : Cell) (z : Int32) (args : Array Value) (s : State) : Prop := args = #[.ref a, .ref b] ∧ Blank "java/lang/String" a D s ∧ Found "java/lang/String" "value" "[B" fV s ∧ Found "java/lang/String" "coder" "B" fC s ∧ Ch b A s ∧ StaticIs s "java/lang/String" "COMPACT_STRINGS" "Z" (.int z) ∧ ¬ z = 0 ∧ 0 < A.slots.size ∧ A.slots.size ≤ 536870912 ∧ ∀ i, i < A.slots.size → ¬ 255 < cv A i
def E (a : Addr) (D : Cell) (fV fC : Field) (A : Cell) (r : Option Value) (s u : State) : Prop := Got a D fV fC A 0 A.slots.size r s u
/-- new String(chars), not empty, no char above 255: a Latin-1 String of their low bytes -/
theorem law (l : Launch) (a : Addr) (D : Cell) (fV fC : Field) (b : Addr) (A : Cell) (z : Int32) : Law l yN 2 1 3 52 yB 2 none site (P a D fV fC b A z) (E a D fV fC A) [⟨a, fC.slot⟩, ⟨a, fV.slot⟩] 1 A.slots.size := by
  refine Law.of_walk (plainFor_of_name (by decide +kernel)) (by decide +kernel) (by decide +kernel) (by decide) (fun _ _ h => by rw [h.1]; rfl) (fun _ U U' hal hh h => ⟨h.1, h.2.1.mv hal hh, h.2.2.1.al hal, h.2.2.2.1.al hal, h.2.2.2.2.1.mv hal hh, h.2.2.2.2.2.1.there hal hh, h.2.2.2.2.2.2⟩) (fun r U U' V V' h1 hal h2 h => Got.mv r U U' V V' h1 hal h2 h) ?_
  intro p e s m args below meth c s₁ X0 hexec hbytes hml hret hlk hnm hown hh0 W hP
  obtain ⟨rfl, hB, f1, f2, hA, s1, hz, l0, l2, hp⟩ := hP
  have c1 : Steps p.tables e below (s₁.setTop (entryFrame m #[.ref a, .ref b] 2)) (s₁.setTop (mkF m 0 #[.val (.ref a), .val (.ref b)] [])) := entry rfl
  have c2 : Steps p.tables e below (s₁.setTop (entryFrame m #[.ref a, .ref b] 2)) (s₁.setTop (mkF m 6 #[.val (.ref a), .val (.ref b)] [.null, .int (Int32.ofNat A.slots.size), .int 0, .ref b, .ref a])) := c1.trans (by
    refine XS.aloadN X0.here hexec rfl (hb hbytes d0) rfl rfl ?_
    refine XS.aloadN X0.here hexec rfl (hb hbytes d1) rfl rfl ?_
    refine iconstV X0.here hexec rfl 0 (hb hbytes d2) (by decide) ?_
    refine XS.aloadN X0.here hexec rfl (hb hbytes d3) rfl rfl ?_
    refine X0.alen hexec (hA.1.mv X0.warmed.alike hh0) rfl rfl (hb hbytes d4) ?_
    refine XS.aconstNull X0.here hexec rfl (hb hbytes d5) ?_
    exact Steps.refl _)
  obtain ⟨v3, T3, X3, E3, g3⟩ := X0.callN hexec (New4.law l a D fV fC b A z 0 A.slots.size) rfl hown (wks W (initW "java/lang/String" 27 New4.yN)) (W New4.tab (by simp only [site, List.mem_cons, List.mem_append, true_or, or_true])) (W := 0) (Nat.le_of_ble_eq_true rfl) (Nat.le_of_ble_eq_true rfl) (Nat.le_refl _) (by show 0 + A.slots.size ≤ A.slots.size; omega) (g := (mkF m 6 #[.val (.ref a), .val (.ref b)] [.null, .int (Int32.ofNat A.slots.size), .int (Int32.ofNat 0), .ref b, .ref a])) rfl (by rw [hml]; rfl) c2 (argsL := [.ref b, .int (Int32.ofNat 0), .int (Int32.ofNat A.slots.size), .null]) (rest := []) rfl rfl (by show 2 * 0 + 0 ≤ _; decide) (hb hbytes d6) (⟨rfl, hB.mv X0.warmed.alike hh0, f1.al X0.warmed.alike, f2.al X0.warmed.alike, hA.mv X0.warmed.alike hh0, s1.there X0.warmed.alike hh0, hz, l0, by omega, l2, fun i hi => by rw [Nat.zero_add]; exact hp i hi⟩)
  have e0 := Got.mv _ s₁ s _ _ hh0.symm (Vm.Alike.refl _) rfl E3
  obtain rfl := e0.1
  have c4 : Steps p.tables e below (s₁.setTop (entryFrame m #[.ref a, .ref b] 2)) (T3.setTop (mkF m 9 #[.val (.ref a), .val (.ref b)] [])) := g3
  exact ⟨T3, none, _, _, _, X3, by simp, rfl, by omega, (fun _ => rfl), e0, fun fs hl => c4.trans (X3.returnOut hexec hret (hb hbytes d9) hl)⟩
theorem pays {l : Launch} {R : Room} {p : Program} {e : Env} {below : List Frame} {s : State} {sargs : Array Value} {len W : Nat} (a : Addr) (D : Cell) (fV fC : Field) (b : Addr) (A : Cell) (z : Int32) (htab : tab.before sargs s = true) (hfr : 4 ≤ R.frames) (hlo : W + 65 ≤ R.locals) :
    Back l R p e below s sargs yN len W (fun A₁ a₁ => A₁.cells + 1 ≤ R.cells ∧ A₁.slots + A.slots.size ≤ R.slots ∧ P a D fV fC b A z a₁ A₁.U) (fun A₁ _ v₁ B₁ => E a D fV fC A v₁ A₁.U B₁.U ∧ B₁.locs = A₁.locs ++ [⟨a, fC.slot⟩, ⟨a, fV.slot⟩] ∧ B₁.cells = A₁.cells + 1 ∧ B₁.slots = A₁.slots + A.slots.size) :=
  (law l a D fV fC b A z).pays htab hfr (by omega)
end New1
/-- the byte, read back as charAt reads it, is the char -/
theorem lo8_mask {x : Int32} (h0 : ¬ x < 0) (h1 : ¬ 255 < x) : lo8 x &&& 255 = x := by
  have t : ∀ k : Fin 256, lo8 (Int32.ofNat k.val) &&& 255 = Int32.ofNat k.val := by decide +kernel
  rw [Int32.lt_iff_toInt_lt] at h0 h1
  have e0 : (0 : Int32).toInt = 0 := rfl
  have e1 : (255 : Int32).toInt = 255 := rfl
  obtain ⟨k, hk⟩ : ∃ k : Nat, x.toInt = k := ⟨x.toInt.toNat, by omega⟩
  have hx : x = Int32.ofNat k := Int32.toInt_inj.mp (by rw [hk, Int32.toInt_ofNat_small (by omega)])
  rw [hx]
  exact t ⟨k, by omega⟩
end StrChars
namespace StrChars.Road
open Jvm Sem ClassFile Op Lib Jvm.Stand Jvm.Free Jvm.Free.XT
open Jvm.Lib.Cold (StaticIs)
abbrev ST : String := "java/lang/String"
/-- every table word that New1's law asks, flat -/
abbrev words : List Jvm.Cond := [.code New1.yN New1.yB 2 none, .initialized ST, .methodLink ST 27 New4.yN, .instanceMethod New4.yN,
  .code New4.yN New4.yB 6 none, .fieldLink ST 38 ST "COMPACT_STRINGS" "Z", .laysFinal ST ST "value" "[B", .fieldLink ST 9 ST "value" "[B", .laysFinal ST ST "coder" "B", .fieldLink ST 15 ST "coder" "B",
  .methodLink ST 1 Lib.objectInit, .instanceMethod Lib.objectInit, .code Lib.objectInit ⟨#[0xb1]⟩ 1 none, .methodLink ST 177 Cmp3.yN, .static Cmp3.yN, .methodLink ST 47 CodL.yN, .static CodL.yN,
  .code Cmp3.yN Cmp3.yB 6 (some (.array .byte)), .initialized U16, .arrayClass .byte, .methodLink U16 115 Cmp5.yN, .static Cmp5.yN, .code Cmp5.yN Cmp5.yB 7 (some .int), .code CodL.yN CodL.yB 2 (some .byte)]
theorem tab_of {a : Array Value} {s : State} (h : ∀ w ∈ words, w.before a s = true) : New1.tab.before a s = true := by
  have h5 : Cmp5.tab.before a s = true := unparts (wk h (.code Cmp5.yN Cmp5.yB 7 (some .int))) (wks h (.initialized Cmp5.yN.cls :: Cmp5.site))
  have hc : CodL.tab.before a s = true := unparts (wk h (.code CodL.yN CodL.yB 2 (some .byte))) (wks h (.initialized CodL.yN.cls :: CodL.site))
  have q5 : ∀ w ∈ Cmp5.tab :: words, w.before a s = true := fun w hw => (List.mem_cons.mp hw).elim (fun e => e ▸ h5) (h w)
  have h3 : Cmp3.tab.before a s = true := unparts (wk q5 (.code Cmp3.yN Cmp3.yB 6 (some (.array .byte)))) (wks q5 (.initialized Cmp3.yN.cls :: Cmp3.site))
  have q3 : ∀ w ∈ Cmp3.tab :: CodL.tab :: words, w.before a s = true := fun w hw => (List.mem_cons.mp hw).elim (fun e => e ▸ h3) fun hw => (List.mem_cons.mp hw).elim (fun e => e ▸ hc) (h w)
  have h4 : New4.tab.before a s = true := unparts (wk q3 (.code New4.yN New4.yB 6 none)) (wks q3 (.initialized New4.yN.cls :: New4.site))
  have q4 : ∀ w ∈ New4.tab :: words, w.before a s = true := fun w hw => (List.mem_cons.mp hw).elim (fun e => e ▸ h4) (h w)
  exact unparts (wk q4 (.code New1.yN New1.yB 2 none)) (wks q4 (.initialized New1.yN.cls :: New1.site))
/-- the words ride from the start Z to the walk's own state -/
theorem moved {Z s : State} {a0 args : Array Value} (hZ : Z.Warmed39 s.vm) (hw : ∀ d ∈ words, d.before a0 Z = true) : ∀ d ∈ words, d.before args s = true := fun d hd => by
  have q := hw d hd
  have t : ∀ d ∈ words, d = .arrayClass .byte ∨ (d.onTables && d.keepsFace) = true := by decide +kernel
  rcases t d hd with rfl | t
  · exact RoadKit.mvA hZ q
  · exact RoadKit.mv hZ q t
/-- WHAT COMES BACK, over the tables of the start Z: h the heap at the call, h' behind it -/
def Q (Z : State) (x : Addr) (A : Cell) (h : Heap) (v : Option Value) (h' : Heap) (L : List Loc) : Prop := v = none ∧ (∀ y ∈ L, y.base = x) ∧ RoadKit.Keep h h' [x] ∧ h'.size = h.size + 1 ∧ RoadKit.Exa Z h' x ST ∧ RoadKit.Fld Z h' x ST "value" "[B" (.ref h.size) ∧ RoadKit.Fld Z h' x ST "coder" "B" (.int 0) ∧
  (∃ V : Cell, RoadKit.Arr Z h' h.size V .byte ∧ V.vm = .none ∧ Z.vm.findClass "[B" = some V.cls ∧ V.slots.size = A.slots.size ∧ ∀ j, j < A.slots.size → V.slots[j]? = some (.int (lo8 (cv A j)))) ∧
  ∀ (O n d : String) (w : Value), RoadKit.Fld Z h x O n d w → RoadKit.slotOf Z O n d ≠ RoadKit.slotOf Z ST "value" "[B" → RoadKit.slotOf Z O n d ≠ RoadKit.slotOf Z ST "coder" "B" → RoadKit.Fld Z h' x O n d w
/-- **new String(chars) AT A CALL, IN THE ROAD'S FORM**: for specialBack behind newO: x the fresh String, b the char[] with the cell A -/
theorem back {p : Program} {l : Launch} {e : Env} {R : Room} {s : State} {args : Array Value} {below : List Frame} {len W : Nat} {Z : State} {a0 : Array Value} {h : Heap} (hZ : Z.Warmed39 s.vm) (hw : ∀ d ∈ words, d.before a0 Z = true) {kI : Nat} (wi : (Jvm.Cond.instantiable ST kI).before a0 Z = true)
    {x b : Addr} {A : Cell} {z : Int32} {v0 c0 : Value} (E : RoadKit.Exa Z h x ST) (V : RoadKit.Fld Z h x ST "value" "[B" v0) (C : RoadKit.Fld Z h x ST "coder" "B" c0) (K : RoadKit.Arr Z h b A .char) (hty : Typed .char A) (S : RoadKit.Sta Z h ST "COMPACT_STRINGS" "Z" (.int z)) (hz : ¬ z = 0)
    (l0 : 0 < A.slots.size) (l2 : A.slots.size ≤ 536870912) (hp : ∀ i, i < A.slots.size → ¬ 255 < cv A i) (hfr : 4 ≤ R.frames) (hlo : W + 65 ≤ R.locals) :
    Back l R p e below s args New1.yN len W (fun P a => a = #[.ref x, .ref b] ∧ P.U.heap = h ∧ P.cells + 1 ≤ R.cells ∧ P.slots + A.slots.size ≤ R.slots)
      (fun P _ v B => ∃ L, Q Z x A h v B.U.heap L ∧ B.locs = P.locs ++ L ∧ B.cells = P.cells + 1 ∧ B.slots = P.slots + A.slots.size) := by
  intro m meth c P g ig mk a X hg hsize hdg hW hn hp'
  obtain ⟨rfl, rfl, r1, r2⟩ := hp'
  have al : Z.vm.Alike P.U.vm := hZ.alike.trans X.warmed.alike
  obtain ⟨D, cfV, kV, iV, fV, hD, gV, stV, knV, obV, asV, slV⟩ := id V
  obtain ⟨D', cfC, kC, iC, fC, hD', gC, stC, -, -, asC, slC⟩ := id C
  cases hD.symm.trans hD'
  obtain ⟨D2, kD, e1, e2, e3, e4, e5⟩ := id E
  cases hD.symm.trans e1
  obtain ⟨c2, k2, i1, i2, i3, -⟩ := Cond.instantiable_spec wi
  cases e2.symm.trans i1
  cases e3.symm.trans i2
  obtain ⟨kU, u1, u2⟩ := al.2.2 _ _ e3
  have hB : Blank ST x D P.U := ⟨hD, ⟨knV, fun q hq => by rw [hq] at obV; cases obV⟩, by rw [al.findClass]; exact e2, kU, u1, by rw [u2]; exact i3, by rw [u2]; exact e5 i3⟩
  have F1 : Found ST "value" "[B" fV P.U := ⟨SBG.found_only al ⟨cfV, kV, iV, gV⟩, stV⟩
  have F2 : Found ST "coder" "B" fC P.U := ⟨SBG.found_only al ⟨cfC, kC, iC, gC⟩, stC⟩
  have hA : Ch b A P.U := ⟨⟨K.1, State.isArrayOf_alike al K.2.1, K.2.2, by omega⟩, hty⟩
  have hS : StaticIs P.U ST "COMPACT_STRINGS" "Z" (.int z) := by
    obtain ⟨cfS, iS, kS, fS, st, cS, t1, t2, t3, t4, t5, t6, t7⟩ := S
    exact StaticIs.there (s := { Z with heap := P.U.heap }) ⟨cfS, iS, kS, fS, st, cS, t1, t2, t3, t4, t5, (fun q => by rw [q] at t6; cases t6), t7⟩ al rfl
  obtain ⟨v, B, X', ⟨⟨hv, E', V', q1, q2, q3, q4, q5, q6, q7, q8, q9, q10, q11⟩, hl, hc, hs⟩, st⟩ := New1.pays x D fV fC b A z (tab_of (moved hZ hw)) hfr hlo m meth c P g ig mk _ X hg hsize hdg hW hn ⟨r1, r2, rfl, hB, F1, F2, hA, hS, hz, l0, l2, hp⟩
  have al' : Z.vm.Alike B.U.vm := hZ.alike.trans X'.warmed.alike
  have hsz : E'.slots.size = D.slots.size := by
    obtain ⟨-, -, -, kB, w1, w2, w3⟩ := q1
    obtain ⟨kB', y1, y2⟩ := al'.2.2 _ _ e3
    rw [q2.2.1] at w1
    cases w1.symm.trans y1
    rw [w3, e5 i3, y2]
  refine ⟨v, B, X', ⟨_, ⟨hv, ?_, ⟨by omega, fun y cy hy hn' => q10 y cy (by simpa using hn') hy, fun y cy hy => ?_⟩, q11, ⟨E', _, q1.1, by rw [q2.2.1]; exact e2, by rw [q2.2.1]; exact e3, by rw [q2.1]; exact obV, fun _ => by rw [hsz]; exact e5 i3⟩,
    ⟨E', cfV, kV, iV, fV, q1.1, gV, stV, by rw [q2.1]; exact knV, by rw [q2.1]; exact obV, by rw [q2.2.1]; exact asV, q3⟩, ⟨E', cfC, kC, iC, fC, q1.1, gC, stC, by rw [q2.1]; exact knV, by rw [q2.1]; exact obV, by rw [q2.2.1]; exact asC, q4⟩,
    ⟨V', ⟨q5.1, State.isArrayOf_alike al'.symm q5.2.1, q5.2.2.1⟩, q6, by rw [← al'.findClass]; exact q7, q8, fun j hj => by have := q9 j hj; rwa [Nat.zero_add] at this⟩, fun O n d w F n1 n2 => ?_⟩, hl, hc, hs⟩, st⟩
  · intro y hy
    simp only [List.mem_cons, List.not_mem_nil, or_false] at hy
    rcases hy with rfl | rfl <;> rfl
  · by_cases q : y = x
    · subst q
      cases hD.symm.trans hy
      exact ⟨E', q1.1, q2.2.1, q2.1, hsz⟩
    · exact ⟨cy, q10 y cy q hy, rfl, rfl, rfl⟩
  · obtain ⟨D3, cf, k, i, f, g1, g2, g3, g4, g5, g6, g7⟩ := F
    cases hD.symm.trans g1
    simp only [RoadKit.slotOf, g2, gV, gC, Option.map_some, Option.getD_some] at n1 n2
    exact ⟨E', cf, k, i, f, q1.1, g2, g3, by rw [q2.1]; exact g4, by rw [q2.1]; exact g5, by rw [q2.2.1]; exact g6, by rw [q2.2.2 f.slot (by simp [n1, n2])]; exact g7⟩
end StrChars.Road
namespace StrChars.Road
open Jvm Sem ClassFile Op Lib Jvm.Stand Jvm.Free Jvm.Free.XT
/-- WHAT COMES BACK, the byte[] as a list of values -/
def QA (Z : State) (x : Addr) (zn : Int32) (cs : List Int32) (h : Heap) (v : Option Value) (h' : Heap) (L : List Loc) : Prop := v = none ∧ (∀ y ∈ L, y.base = x) ∧ RoadKit.Keep h h' [x] ∧ h'.size = h.size + 1 ∧ RoadKit.Exa Z h' x ST ∧ RoadKit.Fld Z h' x ST "value" "[B" (.ref h.size) ∧ RoadKit.Fld Z h' x ST "coder" "B" (.int 0) ∧
  (∃ kb, Z.vm.findClass "[B" = some kb ∧ RoadKit.Arv Z h' h.size kb .byte zn (cs.map fun c => .int (lo8 c)) (.int 0)) ∧
  ∀ (O n d : String) (w : Value), RoadKit.Fld Z h x O n d w → RoadKit.slotOf Z O n d ≠ RoadKit.slotOf Z ST "value" "[B" → RoadKit.slotOf Z O n d ≠ RoadKit.slotOf Z ST "coder" "B" → RoadKit.Fld Z h' x O n d w
/-- **new String(chars) AT A CALL, THE ARRAYS AS LISTS**: the char[] at b holds cs, not empty, no char above 255 -/
theorem backArv {p : Program} {l : Launch} {e : Env} {R : Room} {s : State} {args : Array Value} {below : List Frame} {len W : Nat} {Z : State} {a0 : Array Value} {h : Heap} (hZ : Z.Warmed39 s.vm) (hw : ∀ d ∈ words, d.before a0 Z = true) {kI : Nat} (wi : (Jvm.Cond.instantiable ST kI).before a0 Z = true)
    {x b : Addr} {k : ClassId} {zn z : Int32} {cs : List Int32} {dv v0 c0 : Value} (E : RoadKit.Exa Z h x ST) (V : RoadKit.Fld Z h x ST "value" "[B" v0) (C : RoadKit.Fld Z h x ST "coder" "B" c0) (K : RoadKit.Arv Z h b k .char zn (cs.map Value.int) dv) (S : RoadKit.Sta Z h ST "COMPACT_STRINGS" "Z" (.int z)) (hz : ¬ z = 0)
    (hlen : zn.toNatClampNeg = cs.length) (h0 : 0 < cs.length) (hbig : cs.length ≤ 536870912) (hall : ∀ c ∈ cs, ¬ 255 < c) (hfr : 4 ≤ R.frames) (hlo : W + 65 ≤ R.locals) :
    Back l R p e below s args New1.yN len W (fun P a => a = #[.ref x, .ref b] ∧ P.U.heap = h ∧ P.cells + 1 ≤ R.cells ∧ P.slots + cs.length ≤ R.slots)
      (fun P _ v B => ∃ L, QA Z x zn cs h v B.U.heap L ∧ B.locs = P.locs ++ L ∧ B.cells = P.cells + 1 ∧ B.slots = P.slots + cs.length) := by
  obtain ⟨A, K1, K2, K3, K4, K5, K6⟩ := K
  have e : A.slots.size = cs.length := K3.trans hlen
  have hat : ∀ (i : Nat) (hi : i < cs.length), A.slots[i]? = some (.int cs[i]) := fun i hi => by rw [K5 i (by omega)]; simp [List.getD_eq_getElem?_getD, hi]
  have hcv : ∀ (i : Nat) (hi : i < cs.length), cv A i = cs[i] := fun i hi => by unfold cv; rw [hat i hi]
  have hty : Typed .char A := fun i v hv => by
    have hi : i < A.slots.size := (Array.getElem?_eq_some_iff.mp hv).1
    have q := K5 i hi
    rw [hv] at q
    rw [Option.some.inj q]
    exact K6 i hi
  refine Back.mono (back hZ hw wi E V C K1 hty S hz (by omega) (by omega) (fun i hi => by rw [hcv i (by omega)]; exact hall _ (List.getElem_mem _)) hfr hlo) (fun P a hp => ⟨hp.1, hp.2.1, hp.2.2.1, by rw [e]; exact hp.2.2.2⟩) (fun P a v B hp hq => ?_)
  obtain ⟨L, ⟨q1, q2, q3, q4, q5, q6, q7, ⟨V', v1, v2, v3, v4, v5⟩, q9⟩, hl, hc, hs⟩ := hq
  refine ⟨L, ⟨q1, q2, q3, q4, q5, q6, q7, ⟨V'.cls, v3, V', v1, rfl, by rw [v4, e, hlen], K4, fun i hi => ?_, fun i hi => ?_⟩, q9⟩, hl, hc, by rw [hs, e]⟩
  · have hi' : i < cs.length := by omega
    rw [v5 i (by omega), hcv i hi']; simp [List.getD_eq_getElem?_getD, hi']
  · have hi' : i < cs.length := by omega
    simp only [List.getD_eq_getElem?_getD, List.getElem?_map, List.getElem?_eq_getElem hi', Option.map_some, Option.getD_some]
    exact fits_lo8 _
end StrChars.Road
namespace StrChars.Road
open Jvm Sem ClassFile Op Lib Jvm.Stand Jvm.Free Jvm.Free.XT
/-- WHAT COMES BACK, in the writer's own shape -/
def QV (Z : State) (x : Addr) (N : Int32) (bs : List Int32) (h : Heap) (n0 : Nat) (v : Option Value) (h' : Heap) (L : List Loc) : Prop := v = none ∧ RoadKit.Fr n0 L ∧ RoadKit.Keep h h' [x] ∧ RoadKit.Exa Z h' x ST ∧ RoadKit.Fld Z h' x ST "coder" "B" (.int 0) ∧
  ∃ (t : Addr) (kb : ClassId), n0 ≤ t ∧ h.size ≤ t ∧ ¬ t = x ∧ RoadKit.Fld Z h' x ST "value" "[B" (.ref t) ∧ RoadKit.Arv Z h' t kb .byte N (bs.map Value.int) (.int 0)
/-- **new String(chars) AT A CALL, FOR THE WRITER**: a char[] of n known ints, each 0 to 255 -/
theorem backV {p : Program} {l : Launch} {e : Env} {R : Room} {s : State} {args : Array Value} {below : List Frame} {len W : Nat} {Z : State} {a0 : Array Value} {h : Heap} (hZ : Z.Warmed39 s.vm) (hw : ∀ d ∈ words, d.before a0 Z = true) {kI : Nat} (wi : (Jvm.Cond.instantiable ST kI).before a0 Z = true)
    {x b : Addr} {kC : ClassId} {cs bs : List Int32} {d v0 c0 : Value} {z N : Int32} {n n0 : Nat} (hx0 : n0 ≤ x) (hh0 : n0 ≤ h.size) (E : RoadKit.Exa Z h x ST) (V : RoadKit.Fld Z h x ST "value" "[B" v0) (C : RoadKit.Fld Z h x ST "coder" "B" c0) (K : RoadKit.Arv Z h b kC .char N (cs.map Value.int) d) (S : RoadKit.Sta Z h ST "COMPACT_STRINGS" "Z" (.int z)) (hz : ¬ z = 0)
    (hn : cs.length = n) (hN : N = Int32.ofNat n) (l0 : 0 < n) (l2 : n ≤ 4000) (hp : ∀ c ∈ cs, ¬ c < 0 ∧ ¬ (255 : Int32) < c) (hb : bs = cs.map (fun c => c.toInt8.toInt32)) (hfr : 4 ≤ R.frames) (hlo : W + 65 ≤ R.locals) :
    Back l R p e below s args (⟨"java/lang/String", "<init>", "([C)V"⟩ : MethodName) len W (fun P a => a = #[.ref x, .ref b] ∧ P.U.heap = h ∧ P.cells + 1 ≤ R.cells ∧ P.slots + n ≤ R.slots)
      (fun P _ v B => ∃ L, QV Z x N bs h n0 v B.U.heap L ∧ B.locs = P.locs ++ L ∧ B.cells = P.cells + 1 ∧ B.slots = P.slots + n) := by
  subst hn hN hb
  refine Back.mono (backArv hZ hw wi E V C K S hz (n32 (by omega)) l0 (by omega) (fun c hc => (hp c hc).2) hfr hlo) (fun P a hp => hp) (fun P a v B hp hq => ?_)
  obtain ⟨L, ⟨q1, q2, q3, q4, q5, q6, q7, ⟨kb, v1, v2⟩, q9⟩, hl, hc, hs⟩ := hq
  exact ⟨L, ⟨q1, fun y hy => by rw [q2 y hy]; exact hx0, q3, q5, q7, h.size, kb, hh0, Nat.le_refl _, Nat.ne_of_gt E.lt, q6, by rw [List.map_map]; exact v2⟩, hl, hc, hs⟩
end StrChars.Road
namespace StrChars
open Jvm Sem ClassFile Op Lib Jvm.Stand Jvm.Free.XT Jvm.Free.ALB Jvm.Free.JM Jvm.Free
open Jvm.Lib.Cold (StaticIs)
def hi8 (x : Int32) : Int32 := lo8 (x >>> ((8 : Int32) &&& 31))
/-- what StringUTF16.getChar makes of two bytes -/
def pairCh (u v : Int32) : Int32 := (((u &&& 255) <<< ((0 : Int32) &&& 31)) ||| ((v &&& 255) <<< ((8 : Int32) &&& 31))).toUInt32.toUInt16.toUInt32.toInt32
theorem shr0 (c : Int32) : c >>> ((0 : Int32) &&& 31) = c := by
  have e : ((0 : Int32) &&& 31) = 0 := by decide
  rw [e]
  apply Int32.toBitVec_inj.mp
  rw [Int32.toBitVec_shiftRight]
  have e1 : ((0 : Int32).toBitVec.smod 32) = 0#32 := by decide
  rw [e1, BitVec.sshiftRight_eq']
  exact BitVec.sshiftRight_zero
theorem lo8_and (x : Int32) : (lo8 x &&& 255).toBitVec.toNat = x.toBitVec.toNat % 256 := by
  have h : (lo8 x).toBitVec = (x.toBitVec.signExtend 8).signExtend 32 := by rw [lo8, Int8.toBitVec_toInt32, Int32.toBitVec_toInt8]
  rw [Int32.toBitVec_and, BitVec.toNat_and, h]
  have e : ((x.toBitVec.signExtend 8).signExtend 32).toNat % 256 = x.toBitVec.toNat % 256 := by
    rw [BitVec.toNat_signExtend]
    have hlt := x.toBitVec.isLt
    simp only [BitVec.toNat_setWidth, BitVec.toNat_signExtend]
    split <;> split <;> omega
  rw [← e]
  exact Nat.and_two_pow_sub_one_eq_mod _ 8
theorem pair_says {c : Int32} (h0 : ¬ c < 0) (h1 : ¬ 65535 < c) : pairCh (lo8 c) (hi8 c) = c := by
  rw [Int32.lt_iff_toInt_lt] at h0 h1
  have e0 : (0 : Int32).toInt = 0 := rfl
  have e1 : (65535 : Int32).toInt = 65535 := rfl
  have hc : c.toInt = c.toBitVec.toNat := by
    have := c.toBitVec.isLt
    have e : c.toInt = c.toBitVec.toInt := rfl
    rw [e] at h0 h1
    rw [e]
    rw [BitVec.toInt_eq_toNat_cond] at h0 h1 ⊢
    split at h0 <;> split <;> omega
  have hn : c.toBitVec.toNat < 65536 := by omega
  have a1 := lo8_and c
  have a2 : (hi8 c &&& 255).toBitVec.toNat = c.toBitVec.toNat / 256 := by
    rw [hi8, lo8_and]
    have e : ((8 : Int32) &&& 31) = 8 := by decide
    rw [e, Int32.toBitVec_shiftRight]
    have e2 : ((8 : Int32).toBitVec.smod 32) = 8#32 := by decide
    rw [e2, BitVec.sshiftRight_eq', BitVec.toNat_sshiftRight_of_msb_false (by rw [BitVec.msb_eq_false_iff_two_mul_lt]; omega)]
    show c.toBitVec.toNat >>> 8 % 256 = _
    rw [Nat.shiftRight_eq_div_pow]
    omega
  unfold pairCh
  apply Int32.toBitVec_inj.mp
  apply BitVec.eq_of_toNat_eq
  have f0 : ((0 : Int32) &&& 31) = 0 := by decide
  have f8 : ((8 : Int32) &&& 31) = 8 := by decide
  rw [f0, f8]
  have g : (((lo8 c &&& 255) <<< (0 : Int32)) ||| ((hi8 c &&& 255) <<< (8 : Int32))).toBitVec.toNat = c.toBitVec.toNat := by
    rw [Int32.toBitVec_or, Int32.toBitVec_shiftLeft, Int32.toBitVec_shiftLeft]
    have s0 : ((0 : Int32).toBitVec.smod 32) = 0#32 := by decide
    have s8 : ((8 : Int32).toBitVec.smod 32) = 8#32 := by decide
    rw [s0, s8, BitVec.toNat_or]
    simp only [BitVec.shiftLeft_eq', BitVec.toNat_shiftLeft, a1, a2]
    show (c.toBitVec.toNat % 256) <<< 0 % 2 ^ 32 ||| (c.toBitVec.toNat / 256) <<< 8 % 2 ^ 32 = _
    rw [Nat.shiftLeft_zero, Nat.mod_eq_of_lt (show c.toBitVec.toNat % 256 < 2 ^ 32 by omega), Nat.mod_eq_of_lt (show (c.toBitVec.toNat / 256) <<< 8 < 2 ^ 32 by rw [Nat.shiftLeft_eq]; omega), Nat.or_comm, ← Nat.shiftLeft_add_eq_or_of_lt (by omega), Nat.shiftLeft_eq]
    omega
  show BitVec.toNat (((((lo8 c &&& 255) <<< (0 : Int32)) ||| ((hi8 c &&& 255) <<< (8 : Int32))).toBitVec.setWidth 16).setWidth 32) = _
  rw [BitVec.toNat_setWidth, BitVec.toNat_setWidth, g]
  omega
end StrChars
namespace StrChars
open Jvm Sem ClassFile Op Lib Jvm.Stand Jvm.Free.XT Jvm.Free.ALB Jvm.Free.JM Jvm.Free
open Jvm.Lib.Cold (StaticIs)
theorem shr1 {n : Nat} (h : 2 * n < 2 ^ 31) : Int32.ofNat (2 * n) >>> ((1 : Int32) &&& 31) = Int32.ofNat n := by
  have e : ((1 : Int32) &&& 31) = 1 := by decide
  rw [e]
  apply Int32.toBitVec_inj.mp
  rw [Int32.toBitVec_shiftRight]
  have e1 : ((1 : Int32).toBitVec.smod 32) = 1#32 := by decide
  have hm : (BitVec.ofNat 32 (2 * n)).toNat = 2 * n := by rw [BitVec.toNat_ofNat, Nat.mod_eq_of_lt (by omega)]
  rw [e1, BitVec.sshiftRight_eq']
  apply BitVec.eq_of_toNat_eq
  show ((BitVec.ofNat 32 (2 * n)).sshiftRight 1).toNat = (BitVec.ofNat 32 n).toNat
  rw [BitVec.toNat_sshiftRight_of_msb_false (by rw [BitVec.msb_eq_false_iff_two_mul_lt, hm]; omega), hm, BitVec.toNat_ofNat, Nat.shiftRight_eq_div_pow]
  omega
/-- the array's cell V codes the n chars f 0 .. f (n - 1) by the coder cd, as the JDK does: coder 1 just where some char is above 255 -/
def Cod (cd : Int32) (n : Nat) (f : Nat → Int32) (V : Cell) : Prop := (cd = 0 ∧ V.slots.size = n ∧ ∀ j, j < n → V.slots[j]? = some (.int (lo8 (f j))) ∧ ¬ 255 < f j) ∨ (cd = 1 ∧ V.slots.size = 2 * n ∧ (∀ j, j < n → V.slots[2 * j]? = some (.int (lo8 (f j))) ∧ V.slots[2 * j + 1]? = some (.int (hi8 (f j)))) ∧ ∃ j, j < n ∧ 255 < f j)
theorem Cod.cd {cd : Int32} {n : Nat} {f : Nat → Int32} {V : Cell} (h : Cod cd n f V) : cd = 0 ∨ cd = 1 := h.imp (fun q => q.1) fun q => q.1
theorem Cod.len {cd : Int32} {n : Nat} {f : Nat → Int32} {V : Cell} (h : Cod cd n f V) (hs : V.slots.size < 2 ^ 31) : Int32.ofNat V.slots.size >>> (cd &&& 31) = Int32.ofNat n := by
  rcases h with ⟨rfl, h, -⟩ | ⟨rfl, h, -⟩
  · rw [shr0, h]
  · rw [h, shr1 (by omega)]
/-- **x is a String of the n chars f 0 .. f (n - 1)**, Latin-1 or UTF-16; its array at t has the cell V -/
def Txt (x t : Addr) (V : Cell) (cd : Int32) (n : Nat) (f : Nat → Int32) (U : State) : Prop := Exact "java/lang/String" x U ∧ Has x "java/lang/String" "value" "[B" (.ref t) U ∧ Has x "java/lang/String" "coder" "B" (.int cd) U ∧ XT.Arr .byte t V U ∧ Cod cd n f V ∧ ∀ j, j < n → ¬ f j < 0 ∧ ¬ 65535 < f j
theorem Txt.mv {x t : Addr} {V : Cell} {cd : Int32} {n : Nat} {f : Nat → Int32} {U U' : State} (h : Txt x t V cd n f U) (hal : U.vm.Alike U'.vm) (hh : U'.heap = U.heap) : Txt x t V cd n f U' := ⟨h.1.mv hal hh, h.2.1.mv hal hh, h.2.2.1.mv hal hh, h.2.2.2.1.mv hal hh, h.2.2.2.2⟩
namespace Cdr
def yN : MethodName := ⟨"java/lang/String", "coder", "()B"⟩
abbrev yB : ByteArray := jdk_42_method_152_code
theorem d0 : decode yB 0 = .ok (.getstatic 38, 3) := by decide +kernel
theorem d3 : decode yB 3 = .ok (.ifCond (.eq) 10, 3) := by decide +kernel
theorem d6 : decode yB 6 = .ok (.aload_n 0, 1) := by decide +kernel
theorem d7 : decode yB 7 = .ok (.getfield 15, 3) := by decide +kernel
theorem d10 : decode yB 10 = .ok (.goto 4, 3) := by decide +kernel
theorem d14 : decode yB 14 = .ok (.ireturn, 1) := by decide +kernel
def site : List Cond := [.fieldLink "java/lang/String" 38 "java/lang/String" "COMPACT_STRINGS" "Z", .fieldLink "java/lang/String" 15 "java/lang/String" "coder" "B"]
def tab : Cond := tabOf yN yB 1 (some .byte) site
def P (x : Addr) (cd z : Int32) (args : Array Value) (s : State) : Prop := args = #[.ref x] ∧ Has x "java/lang/String" "coder" "B" (.int cd) s ∧ (cd = 0 ∨ cd = 1) ∧ StaticIs s "java/lang/String" "COMPACT_STRINGS" "Z" (.int z) ∧ ¬ z = 0
def E (cd : Int32) (r : Option Value) (s u : State) : Prop := XT.PureE (some (.int cd)) r s u
theorem law (l : Launch) (x : Addr) (cd z : Int32) : Law l yN 1 0 0 0 yB 1 (some .byte) site (P x cd z) (E cd) [] 0 0 := by
  refine Law.of_walk (plainFor_of_name (by decide +kernel)) (by decide +kernel) (by decide +kernel) (by decide) (fun _ _ h => by rw [h.1]; rfl) (fun _ U U' hal hh h => ⟨h.1, h.2.1.mv hal hh, h.2.2.1, h.2.2.2.1.there hal hh, h.2.2.2.2⟩) (fun r U U' V V' h1 hal h2 h => XT.PureE.mv r U U' V V' h1 hal h2 h) ?_
  intro p e s m args below meth c s₁ X0 hexec hbytes hml hret hlk hnm hown hh0 W hP
  obtain ⟨rfl, hx, hc, s1, hz⟩ := hP
  have c1 : Steps p.tables e below (s₁.setTop (entryFrame m #[.ref x] 1)) (s₁.setTop (mkF m 0 #[.val (.ref x)] [])) := entry rfl
  obtain ⟨T2, X2, q2, st2⟩ := X0.sget hexec hown (wk W (.fieldLink "java/lang/String" 38 "java/lang/String" "COMPACT_STRINGS" "Z")) s1 (fun _ _ h => by rw [hh0]; exact h) (g := (mkF m 0 #[.val (.ref x)] [])) rfl (hb hbytes d0)
  have hh2 := q2.trans hh0
  have c3 : Steps p.tables e below (s₁.setTop (entryFrame m #[.ref x] 1)) (T2.setTop (mkF m 7 #[.val (.ref x)] [.ref x])) := (c1.trans (st2 _ (Steps.refl _))).trans (by
    refine XS.ifNo X2.here hexec rfl (hb hbytes d3) rfl (i0_eq_f hz) ?_
    refine XS.aloadN X2.here hexec rfl (hb hbytes d6) rfl rfl ?_
    exact Steps.refl _)
  obtain ⟨T4, X4, q4, st4⟩ := X2.hget hexec hown (wk W (.fieldLink "java/lang/String" 15 "java/lang/String" "coder" "B")) (hx.mv X2.warmed.alike hh2) (g := (mkF m 7 #[.val (.ref x)] [.ref x])) rfl (rest := []) rfl (hb hbytes d7)
  have c5 : Steps p.tables e below (s₁.setTop (entryFrame m #[.ref x] 1)) (T4.setTop (mkF m 14 #[.val (.ref x)] [.int cd])) := (c3.trans (st4 _ (Steps.refl _))).trans (by
    refine XS.goto X4.here hexec rfl (pc0 := 10) rfl (hb hbytes d10) (by decide) rfl ?_
    exact Steps.refl _)
  exact ⟨T4, some (.int cd), _, _, _, X4, rfl, rfl, rfl, (fun h => by cases h), ⟨rfl, q4.trans hh2⟩, fun fs hl => c5.trans (X4.ireturnOut hexec hret (by rcases hc with rfl | rfl <;> rfl) (Or.inr (Or.inr (Or.inl rfl))) (hb hbytes d14) hl)⟩
end Cdr
namespace Len
def yN : MethodName := ⟨"java/lang/String", "length", "()I"⟩
abbrev yB : ByteArray := jdk_42_method_54_code
theorem d0 : decode yB 0 = .ok (.aload_n 0, 1) := by decide +kernel
theorem d1 : decode yB 1 = .ok (.getfield 9, 3) := by decide +kernel
theorem d4 : decode yB 4 = .ok (.arraylength, 1) := by decide +kernel
theorem d5 : decode yB 5 = .ok (.aload_n 0, 1) := by decide +kernel
theorem d6 : decode yB 6 = .ok (.invokevirtual 335, 3) := by decide +kernel
theorem d9 : decode yB 9 = .ok (.ishr, 1) := by decide +kernel
theorem d10 : decode yB 10 = .ok (.ireturn, 1) := by decide +kernel
def site : List Cond := [.fieldLink "java/lang/String" 9 "java/lang/String" "value" "[B", Cdr.tab] ++ virtW "java/lang/String" 335 "java/lang/String" Cdr.yN Cdr.yN
def tab : Cond := tabOf yN yB 1 (some .int) site
def P (x t : Addr) (V : Cell) (cd : Int32) (n : Nat) (f : Nat → Int32) (z : Int32) (args : Array Value) (s : State) : Prop := args = #[.ref x] ∧ Txt x t V cd n f s ∧ StaticIs s "java/lang/String" "COMPACT_STRINGS" "Z" (.int z) ∧ ¬ z = 0
def E (n : Nat) (r : Option Value) (s u : State) : Prop := XT.PureE (some (.int (Int32.ofNat n))) r s u
/-- length() of a String of n chars, in either coding -/
theorem law (l : Launch) (x t : Addr) (V : Cell) (cd : Int32) (n : Nat) (f : Nat → Int32) (z : Int32) : Law l yN 1 0 1 13 yB 1 (some .int) site (P x t V cd n f z) (E n) [] 0 0 := by
  refine Law.of_walk (plainFor_of_name (by decide +kernel)) (by decide +kernel) (by decide +kernel) (by decide) (fun _ _ h => by rw [h.1]; rfl) (fun _ U U' hal hh h => ⟨h.1, h.2.1.mv hal hh, h.2.2.1.there hal hh, h.2.2.2⟩) (fun r U U' V V' h1 hal h2 h => XT.PureE.mv r U U' V V' h1 hal h2 h) ?_
  intro p e s m args below meth c s₁ X0 hexec hbytes hml hret hlk hnm hown hh0 W hP
  obtain ⟨rfl, hx, s1, hz⟩ := hP
  have v31 := hx.2.2.2.1.2.2.2
  have c1 : Steps p.tables e below (s₁.setTop (entryFrame m #[.ref x] 1)) (s₁.setTop (mkF m 1 #[.val (.ref x)] [.ref x])) := Steps.trans (entry rfl) (by
    show Steps p.tables e below (s₁.setTop (mkF m 0 #[.val (.ref x)] [])) _
    refine XS.aloadN X0.here hexec rfl (hb hbytes d0) rfl rfl ?_
    exact Steps.refl _)
  obtain ⟨T2, X2, q2, st2⟩ := X0.hget hexec hown (wk W (.fieldLink "java/lang/String" 9 "java/lang/String" "value" "[B")) (hx.mv X0.warmed.alike hh0).2.1 (g := (mkF m 1 #[.val (.ref x)] [.ref x])) rfl (rest := []) rfl (hb hbytes d1)
  have hh2 := q2.trans hh0
  have hx2 := hx.mv X2.warmed.alike hh2
  have c3 : Steps p.tables e below (s₁.setTop (entryFrame m #[.ref x] 1)) (T2.setTop (mkF m 6 #[.val (.ref x)] [.ref x, .int (Int32.ofNat V.slots.size)])) := (c1.trans (st2 _ (Steps.refl _))).trans (by
    refine X2.alen hexec hx2.2.2.2.1 rfl rfl (hb hbytes d4) ?_
    refine XS.aloadN X2.here hexec rfl (hb hbytes d5) rfl rfl ?_
    exact Steps.refl _)
  obtain ⟨v4, T4, X4, E4, g4⟩ := X2.callV hexec (Cdr.law l x cd z) hown (wks W (virtW "java/lang/String" 335 "java/lang/String" Cdr.yN Cdr.yN)) rfl (by decide) (wk W Cdr.tab) (W := 1) (Nat.le_of_ble_eq_true rfl) (Nat.le_of_ble_eq_true rfl) (Nat.le_refl _) (Nat.le_refl _) (hx2.1.fc X2.warmed.alike) hx2.1.is (g := (mkF m 6 #[.val (.ref x)] [.ref x, .int (Int32.ofNat V.slots.size)])) rfl (by rw [hml]; rfl) c3 (argsL := []) (rest := [.int (Int32.ofNat V.slots.size)]) rfl rfl (by show 2 * 0 + (1 + 0) ≤ _; decide) (hb hbytes d6) (⟨rfl, hx2.2.2.1, hx.2.2.2.2.1.cd, s1.there X2.warmed.alike hh2, hz⟩)
  obtain ⟨rfl, q4⟩ := E4
  have c5 : Steps p.tables e below (s₁.setTop (entryFrame m #[.ref x] 1)) (T4.setTop (mkF m 10 #[.val (.ref x)] [.int (Int32.ofNat V.slots.size >>> (cd &&& 31))])) := Steps.trans g4 (by
    refine ishr X4.here hexec rfl (hb hbytes d9) rfl ?_
    exact Steps.refl _)
  rw [hx.2.2.2.2.1.len v31] at c5
  exact ⟨T4, some (.int (Int32.ofNat n)), _, _, _, X4, rfl, rfl, rfl, (fun h => by cases h), ⟨rfl, q4.trans hh2⟩, fun fs hl => c5.trans (X4.ireturnOut hexec hret rfl (Or.inl rfl) (hb hbytes d10) hl)⟩
theorem pays {l : Launch} {R : Room} {p : Program} {e : Env} {below : List Frame} {s : State} {sargs : Array Value} {len W : Nat} (x t : Addr) (V : Cell) (cd : Int32) (n : Nat) (f : Nat → Int32) (z : Int32) (htab : tab.before sargs s = true) (hfr : 2 ≤ R.frames) (hlo : W + 25 ≤ R.locals) :
    Back l R p e below s sargs yN len W (fun A₁ a₁ => A₁.cells + 0 ≤ R.cells ∧ A₁.slots + 0 ≤ R.slots ∧ P x t V cd n f z a₁ A₁.U) (fun A₁ _ v₁ B₁ => E n v₁ A₁.U B₁.U ∧ B₁.locs = A₁.locs ++ [] ∧ B₁.cells = A₁.cells + 0 ∧ B₁.slots = A₁.slots + 0) :=
  (law l x t V cd n f z).pays htab hfr (by omega)
end Len
end StrChars
namespace StrChars.Road
open Jvm Sem ClassFile Op Lib Jvm.Stand Jvm.Free Jvm.Free.XT
open Jvm.Lib.Cold (StaticIs)
theorem consq {a : Array Value} {s : State} {c : Jvm.Cond} {L : List Jvm.Cond} (h0 : c.before a s = true) (h : ∀ w ∈ L, w.before a s = true) : ∀ w ∈ c :: L, w.before a s = true := fun w hw => (List.mem_cons.mp hw).elim (fun e => e ▸ h0) (h w)
/-- the words of String.length(), either coding -/
abbrev wordsLen : List Jvm.Cond := [.code Len.yN Len.yB 1 (some .int), .initialized ST, .fieldLink ST 9 ST "value" "[B", .fieldLink ST 38 ST "COMPACT_STRINGS" "Z", .fieldLink ST 15 ST "coder" "B", .code Cdr.yN Cdr.yB 1 (some .byte), .methodLink ST 335 Cdr.yN, .declares Cdr.yN, .selects ST Cdr.yN Cdr.yN, .instanceMethod Cdr.yN]
theorem tabLen_of {a : Array Value} {s : State} (h : ∀ w ∈ wordsLen, w.before a s = true) : Len.tab.before a s = true := by
  have hc : Cdr.tab.before a s = true := unparts (wk h (.code Cdr.yN Cdr.yB 1 (some .byte))) (wks h (.initialized Cdr.yN.cls :: Cdr.site))
  have q := consq hc h
  exact unparts (wk q (.code Len.yN Len.yB 1 (some .int))) (wks q (.initialized Len.yN.cls :: Len.site))
theorem movedLen {Z s : State} {a0 args : Array Value} (hZ : Z.Warmed39 s.vm) (hw : ∀ d ∈ wordsLen, d.before a0 Z = true) : ∀ d ∈ wordsLen, d.before args s = true := fun d hd => by
  have q := hw d hd
  have t : ∀ d ∈ wordsLen, d = .arrayClass .byte ∨ (d.onTables && d.keepsFace) = true := by decide +kernel
  rcases t d hd with rfl | t
  · exact RoadKit.mvA hZ q
  · exact RoadKit.mv hZ q t
/-- the bytes of the chars cs, low before high -/
def wideBytes : List Int32 → List Value
  | [] => []
  | c :: cs => .int (lo8 c) :: .int (hi8 c) :: wideBytes cs
theorem wide_lo (d : Value) : ∀ (cs : List Int32) (j : Nat), j < cs.length → (wideBytes cs).getD (2 * j) d = .int (lo8 (cs.getD j 0))
  | [], j, h => absurd h (Nat.not_lt_zero j)
  | c :: cs, 0, _ => rfl
  | c :: cs, j + 1, h => by
    have q := wide_lo d cs j (by simpa using h)
    rw [show 2 * (j + 1) = 2 * j + 1 + 1 from by omega]
    simpa [wideBytes] using q
theorem wide_hi (d : Value) : ∀ (cs : List Int32) (j : Nat), j < cs.length → (wideBytes cs).getD (2 * j + 1) d = .int (hi8 (cs.getD j 0))
  | [], j, h => absurd h (Nat.not_lt_zero j)
  | c :: cs, 0, _ => rfl
  | c :: cs, j + 1, h => by
    have q := wide_hi d cs j (by simpa using h)
    rw [show 2 * (j + 1) + 1 = 2 * j + 1 + 1 + 1 from by omega]
    simpa [wideBytes] using q
theorem low_at (d : Value) (cs : List Int32) (j : Nat) (h : j < cs.length) : (cs.map fun c => Value.int (lo8 c)).getD j d = .int (lo8 (cs.getD j 0)) := by
  simp [List.getD_eq_getElem?_getD, h]
/-- an array of N2 bytes vs codes the chars cs by the coder cd -/
def CodA (cs : List Int32) (cd N2 : Int32) (vs : List Value) : Prop := (cd = 0 ∧ N2 = Int32.ofNat cs.length ∧ vs = (cs.map fun c => Value.int (lo8 c)) ∧ ∀ c ∈ cs, ¬ 255 < c) ∨ (cd = 1 ∧ N2 = Int32.ofNat (2 * cs.length) ∧ vs = wideBytes cs ∧ ∃ c ∈ cs, 255 < c)
theorem CodA.cod {cs : List Int32} {cd N2 : Int32} {vs : List Value} {V : Cell} (h : CodA cs cd N2 vs) (hn : 2 * cs.length < 2 ^ 31) (hs : V.slots.size = N2.toNatClampNeg) (hv : RoadKit.Has V vs (.int 0)) : Cod cd cs.length (fun j => cs.getD j 0) V := by
  rcases h with ⟨rfl, rfl, rfl, h⟩ | ⟨rfl, rfl, rfl, c, hc, hw⟩
  · rw [n32 (by omega)] at hs
    exact Or.inl ⟨rfl, hs, fun j hj => ⟨by rw [hv j (by omega), low_at _ _ _ hj], by
      have e : cs.getD j 0 = cs[j] := by simp [List.getD_eq_getElem?_getD, hj]
      show ¬ 255 < cs.getD j 0
      rw [e]; exact h _ (List.getElem_mem _)⟩⟩
  · rw [n32 (by omega)] at hs
    obtain ⟨j, hj, rfl⟩ := List.getElem_of_mem hc
    exact Or.inr ⟨rfl, hs, fun j hj => ⟨by rw [hv _ (by omega), wide_lo _ _ _ hj], by rw [hv _ (by omega), wide_hi _ _ _ hj]⟩, j, hj, by
      have e : cs.getD j 0 = cs[j] := by simp [List.getD_eq_getElem?_getD, hj]
      show 255 < cs.getD j 0
      rw [e]; exact hw⟩
/-- an object of exactly java/lang/String, its two fields found: as the laws ask it -/
theorem strObj {Z U : State} {a0 : Array Value} {kI : Nat} (wi : (Jvm.Cond.instantiable ST kI).before a0 Z = true) (al : Z.vm.Alike U.vm) {x : Addr} {v0 c0 : Value} (E : RoadKit.Exa Z U.heap x ST) (V : RoadKit.Fld Z U.heap x ST "value" "[B" v0) (C : RoadKit.Fld Z U.heap x ST "coder" "B" c0) :
    ∃ (D : Cell) (fV fC : Field), Blank ST x D U ∧ Found ST "value" "[B" fV U ∧ Found ST "coder" "B" fC U ∧ D.slots[fV.slot]? = some v0 ∧ D.slots[fC.slot]? = some c0 ∧ RoadKit.slotOf Z ST "value" "[B" = fV.slot ∧ RoadKit.slotOf Z ST "coder" "B" = fC.slot := by
  obtain ⟨D, cfV, kV, iV, fV, hD, gV, stV, knV, obV, asV, slV⟩ := V
  obtain ⟨D', cfC, kC, iC, fC, hD', gC, stC, -, -, asC, slC⟩ := C
  cases hD.symm.trans hD'
  obtain ⟨D2, kD, e1, e2, e3, e4, e5⟩ := E
  cases hD.symm.trans e1
  obtain ⟨c2, k2, i1, i2, i3, -⟩ := Cond.instantiable_spec wi
  cases e2.symm.trans i1
  cases e3.symm.trans i2
  obtain ⟨kU, u1, u2⟩ := al.2.2 _ _ e3
  exact ⟨D, fV, fC, ⟨hD, ⟨knV, fun q hq => by rw [hq] at obV; cases obV⟩, by rw [al.findClass]; exact e2, kU, u1, by rw [u2]; exact i3, by rw [u2]; exact e5 i3⟩, ⟨SBG.found_only al ⟨cfV, kV, iV, gV⟩, stV⟩, ⟨SBG.found_only al ⟨cfC, kC, iC, gC⟩, stC⟩, slV, slC, by simp [RoadKit.slotOf, gV], by simp [RoadKit.slotOf, gC]⟩
theorem sta_is {Z U : State} (al : Z.vm.Alike U.vm) {C n d : String} {v : Value} (S : RoadKit.Sta Z U.heap C n d v) : StaticIs U C n d v := by
  obtain ⟨cfS, iS, kS, fS, st, cS, t1, t2, t3, t4, t5, t6, t7⟩ := S
  exact StaticIs.there (s := { Z with heap := U.heap }) ⟨cfS, iS, kS, fS, st, cS, t1, t2, t3, t4, t5, (fun q => by rw [q] at t6; cases t6), t7⟩ al rfl
/-- **length() OF SUCH A STRING** -/
theorem lenW {p : Program} {l : Launch} {e : Env} {R : Room} {s : State} {args : Array Value} {below : List Frame} {len W : Nat} {Z : State} {a0 : Array Value} {h : Heap} (hZ : Z.Warmed39 s.vm) (hw : ∀ d ∈ wordsLen, d.before a0 Z = true) {kI : Nat} (wi : (Jvm.Cond.instantiable ST kI).before a0 Z = true)
    {x t : Addr} {kb : ClassId} {cs : List Int32} {cd N2 z : Int32} {vs : List Value} (E : RoadKit.Exa Z h x ST) (V : RoadKit.Fld Z h x ST "value" "[B" (.ref t)) (C : RoadKit.Fld Z h x ST "coder" "B" (.int cd)) (K : RoadKit.Arv Z h t kb .byte N2 vs (.int 0)) (hc : CodA cs cd N2 vs) (hb : ∀ c ∈ cs, ¬ c < 0 ∧ ¬ (65535 : Int32) < c)
    (S : RoadKit.Sta Z h ST "COMPACT_STRINGS" "Z" (.int z)) (hz : ¬ z = 0) (l2 : cs.length ≤ 4000) (hfr : 2 ≤ R.frames) (hlo : W + 25 ≤ R.locals) :
    Back l R p e below s args (⟨"java/lang/String", "length", "()I"⟩ : MethodName) len W (fun P a => a = #[.ref x] ∧ P.U.heap = h ∧ P.cells + 0 ≤ R.cells ∧ P.slots + 0 ≤ R.slots)
      (fun P _ v B => ∃ L, (v = some (.int (Int32.ofNat cs.length)) ∧ L = [] ∧ B.U.heap = h) ∧ B.locs = P.locs ++ L ∧ B.cells = P.cells + 0 ∧ B.slots = P.slots + 0) := by
  obtain ⟨A, K1, K2, K3, K4, K5, K6⟩ := K
  have hcod := hc.cod (by omega) K3 K5
  intro m meth c P g ig mk a X hg hsize hdg hW hn hp'
  obtain ⟨rfl, rfl, r1, r2⟩ := hp'
  have al : Z.vm.Alike P.U.vm := hZ.alike.trans X.warmed.alike
  obtain ⟨D, fV, fC, hB, F1, F2, g1, g2, -, -⟩ := strObj wi al E V C
  have hx : Txt x t A cd cs.length (fun j => cs.getD j 0) P.U := ⟨⟨_, hB.2.2.1, D, hB.1, rfl, by cases q : D.vm <;> first | rfl | exact absurd q (hB.2.1.2 _)⟩, Has.of hB F1 g1, Has.of hB F2 g2, ⟨K1.1, State.isArrayOf_alike al K1.2.1, K1.2.2, by rcases hcod with ⟨-, q, -⟩ | ⟨-, q, -⟩ <;> omega⟩, hcod, fun j hj => by
    have e : cs.getD j 0 = cs[j] := by simp [List.getD_eq_getElem?_getD, hj]
    show ¬ cs.getD j 0 < 0 ∧ ¬ 65535 < cs.getD j 0
    rw [e]; exact hb _ (List.getElem_mem _)⟩
  obtain ⟨v, B, X', ⟨⟨hv, hh⟩, hl, hk, hs⟩, st⟩ := Len.pays x t A cd cs.length (fun j => cs.getD j 0) z (tabLen_of (movedLen hZ hw)) hfr hlo m meth c P g ig mk _ X hg hsize hdg hW hn ⟨r1, r2, rfl, hx, sta_is al S, hz⟩
  exact ⟨v, B, X', ⟨[], ⟨hv, rfl, hh⟩, hl, hk, hs⟩, st⟩
end StrChars.Road
namespace StrChars
open Jvm Sem ClassFile Op Lib Jvm.Stand Jvm.Free.XT Jvm.Free.ALB Jvm.Free.JM Jvm.Free
open Jvm.Lib.Cold (StaticIs)
/-- what place i of a byte[]'s cell holds -/
def yv (A : Cell) (i : Nat) : Int32 := match A.slots[i]? with | some (.int x) => x | _ => 0
theorem yv_get {a : Addr} {A : Cell} {U : State} (h : XT.Arr .byte a A U) (ht : Typed .byte A) {i : Nat} (hi : i < A.slots.size) : A.slots[i]? = some (.int (yv A i)) := by
  have e := Array.getElem?_eq_getElem hi
  have f := ht i _ e
  unfold yv; rw [e]
  generalize A.slots[i] = v at f
  cases v <;> simp [fits] at f ⊢
/-- the two arrays are equal, place for place -/
def EqC (A B : Cell) : Prop := A.slots.size = B.slots.size ∧ ∀ i, i < A.slots.size → yv A i = yv B i
/-- a boolean that says whether p -/
def Says01 (q : Prop) (r : Option Value) (s u : State) : Prop := ∃ v : Int32, r = some (.int v) ∧ u.heap = s.heap ∧ ((v = 1 ∧ q) ∨ (v = 0 ∧ ¬ q))
theorem Says01.mv {q : Prop} : ∀ r (U U' V V' : State), U'.heap = U.heap → V.vm.Alike V'.vm → V'.heap = V.heap → Says01 q r U V → Says01 q r U' V' :=
  fun r U U' V V' h1 _ h2 ⟨v, a, b, c⟩ => ⟨v, a, by rw [h1, h2]; exact b, c⟩
namespace LEq
def yN : MethodName := ⟨"java/lang/StringLatin1", "equals", "([B[B)Z"⟩
abbrev yB : ByteArray := jdk_43_method_13_code
theorem d0 : decode yB 0 = .ok (.aload_n 0, 1) := by decide +kernel
theorem d1 : decode yB 1 = .ok (.arraylength, 1) := by decide +kernel
theorem d2 : decode yB 2 = .ok (.aload_n 1, 1) := by decide +kernel
theorem d3 : decode yB 3 = .ok (.arraylength, 1) := by decide +kernel
theorem d4 : decode yB 4 = .ok (.if_icmp (.ne) 30, 3) := by decide +kernel
theorem d7 : decode yB 7 = .ok (.iconst 0, 1) := by decide +kernel
theorem d8 : decode yB 8 = .ok (.istore_n 2, 1) := by decide +kernel
theorem d9 : decode yB 9 = .ok (.iload_n 2, 1) := by decide +kernel
theorem d10 : decode yB 10 = .ok (.aload_n 0, 1) := by decide +kernel
theorem d11 : decode yB 11 = .ok (.arraylength, 1) := by decide +kernel
theorem d12 : decode yB 12 = .ok (.if_icmp (.ge) 20, 3) := by decide +kernel
theorem d15 : decode yB 15 = .ok (.aload_n 0, 1) := by decide +kernel
theorem d16 : decode yB 16 = .ok (.iload_n 2, 1) := by decide +kernel
theorem d17 : decode yB 17 = .ok (.baload, 1) := by decide +kernel
theorem d18 : decode yB 18 = .ok (.aload_n 1, 1) := by decide +kernel
theorem d19 : decode yB 19 = .ok (.iload_n 2, 1) := by decide +kernel
theorem d20 : decode yB 20 = .ok (.baload, 1) := by decide +kernel
theorem d21 : decode yB 21 = .ok (.if_icmp (.eq) 5, 3) := by decide +kernel
theorem d24 : decode yB 24 = .ok (.iconst 0, 1) := by decide +kernel
theorem d25 : decode yB 25 = .ok (.ireturn, 1) := by decide +kernel
theorem d26 : decode yB 26 = .ok (.iinc 2 1, 3) := by decide +kernel
theorem d29 : decode yB 29 = .ok (.goto (-20), 3) := by decide +kernel
theorem d32 : decode yB 32 = .ok (.iconst 1, 1) := by decide +kernel
theorem d33 : decode yB 33 = .ok (.ireturn, 1) := by decide +kernel
theorem d34 : decode yB 34 = .ok (.iconst 0, 1) := by decide +kernel
theorem d35 : decode yB 35 = .ok (.ireturn, 1) := by decide +kernel
def site : List Cond := []
def tab : Cond := tabOf yN yB 3 (some .boolean) site
def P (a : Addr) (A : Cell) (b : Addr) (B : Cell) (args : Array Value) (s : State) : Prop := args = #[.ref a, .ref b] ∧ XT.Arr .byte a A s ∧ Typed .byte A ∧ XT.Arr .byte b B s ∧ Typed .byte B
/-- whether two byte[] are equal, place for place -/
theorem law (l : Launch) (a : Addr) (A : Cell) (b : Addr) (B : Cell) : Law l yN 2 2 0 0 yB 3 (some .boolean) site (P a A b B) (Says01 (EqC A B)) [] 0 0 := by
  refine Law.of_walk (plainFor_of_name (by decide +kernel)) (by decide +kernel) (by decide +kernel) (by decide) (fun _ _ h => by rw [h.1]; rfl) (fun _ U U' hal hh h => ⟨h.1, h.2.1.mv hal hh, h.2.2.1, h.2.2.2.1.mv hal hh, h.2.2.2.2⟩) (fun r U U' V V' h1 hal h2 h => Says01.mv r U U' V V' h1 hal h2 h) ?_
  intro p e s m args below meth c s₁ X0 hexec hbytes hml hret hlk hnm hown hh0 W hP
  obtain ⟨rfl, hA, tA, hB, tB⟩ := hP
  have a31 := hA.2.2.2
  have b31 := hB.2.2.2
  have hA0 := hA.mv X0.warmed.alike hh0
  have hB0 := hB.mv X0.warmed.alike hh0
  have c1 : Steps p.tables e below (s₁.setTop (entryFrame m #[.ref a, .ref b] 3)) (s₁.setTop (mkF m 0 #[.val (.ref a), .val (.ref b), .unset] [])) := entry rfl
  have c2 : Steps p.tables e below (s₁.setTop (entryFrame m #[.ref a, .ref b] 3)) (s₁.setTop (mkF m 4 #[.val (.ref a), .val (.ref b), .unset] [.int (Int32.ofNat B.slots.size), .int (Int32.ofNat A.slots.size)])) := c1.trans (by
    refine XS.aloadN X0.here hexec rfl (hb hbytes d0) rfl rfl ?_
    refine X0.alen hexec hA0 rfl rfl (hb hbytes d1) ?_
    refine XS.aloadN X0.here hexec rfl (hb hbytes d2) rfl rfl ?_
    refine X0.alen hexec hB0 rfl rfl (hb hbytes d3) ?_
    exact Steps.refl _)
  by_cases hs : A.slots.size = B.slots.size
  · have c3 : Steps p.tables e below (s₁.setTop (entryFrame m #[.ref a, .ref b] 3)) (s₁.setTop (mkF m 9 #[.val (.ref a), .val (.ref b), .val (.int 0)] [])) := c2.trans (by
      refine XS.icmpNo X0.here hexec rfl (hb hbytes d4) rfl (ii_ne_f (by rw [hs])) ?_
      refine iconstV X0.here hexec rfl 0 (hb hbytes d7) (by decide) ?_
      refine XS.istoreN X0.here hexec rfl (hb hbytes d8) rfl rfl ?_
      exact Steps.refl _)
    have loop : ∀ (r i : Nat), i + r = A.slots.size → (∀ j, j < i → yv A j = yv B j) → Steps p.tables e below (s₁.setTop (entryFrame m #[.ref a, .ref b] 3)) (s₁.setTop (mkF m 9 #[.val (.ref a), .val (.ref b), .val (.int (Int32.ofNat i))] [])) → ∃ (pc : Nat) (Ls : Array Slot) (v : Int32), (pc = 25 ∨ pc = 33) ∧ ((v = 1 ∧ EqC A B) ∨ (v = 0 ∧ ¬ EqC A B)) ∧ Steps p.tables e below (s₁.setTop (entryFrame m #[.ref a, .ref b] 3)) (s₁.setTop (mkF m pc Ls [.int v])) := by
      intro r
      induction r with
      | zero =>
        intro i hi he cl
        exact ⟨33, _, 1, Or.inr rfl, Or.inl ⟨rfl, hs, fun j hj => he j (by omega)⟩, cl.trans (by
          refine XS.iloadN X0.here hexec rfl (hb hbytes d9) rfl ?_
          refine XS.aloadN X0.here hexec rfl (hb hbytes d10) rfl rfl ?_
          refine X0.alen hexec hA0 rfl rfl (hb hbytes d11) ?_
          refine XS.icmpYes X0.here hexec rfl (pc0 := 12) rfl (hb hbytes d12) rfl (ii_ge_t (nlt32 (by omega) (by omega))) (by decide) rfl ?_
          refine iconstV X0.here hexec rfl 1 (hb hbytes d32) (by decide) ?_
          exact Steps.refl _)⟩
      | succ r ih =>
        intro i hi he cl
        have c4 : Steps p.tables e below (s₁.setTop (entryFrame m #[.ref a, .ref b] 3)) (s₁.setTop (mkF m 21 #[.val (.ref a), .val (.ref b), .val (.int (Int32.ofNat i))] [.int (yv B i), .int (yv A i)])) := cl.trans (by
          refine XS.iloadN X0.here hexec rfl (hb hbytes d9) rfl ?_
          refine XS.aloadN X0.here hexec rfl (hb hbytes d10) rfl rfl ?_
          refine X0.alen hexec hA0 rfl rfl (hb hbytes d11) ?_
          refine XS.icmpNo X0.here hexec rfl (hb hbytes d12) rfl (ii_ge_f (lt32 (by omega) (by omega))) ?_
          refine XS.aloadN X0.here hexec rfl (hb hbytes d15) rfl rfl ?_
          refine XS.iloadN X0.here hexec rfl (hb hbytes d16) rfl ?_
          refine X0.aget hexec hA0 rfl (yv_get hA tA (i := i) (by omega)) rfl rfl (hb hbytes d17) ?_
          refine XS.aloadN X0.here hexec rfl (hb hbytes d18) rfl rfl ?_
          refine XS.iloadN X0.here hexec rfl (hb hbytes d19) rfl ?_
          refine X0.aget hexec hB0 rfl (yv_get hB tB (i := i) (by omega)) rfl rfl (hb hbytes d20) ?_
          exact Steps.refl _)
        by_cases hv : yv A i = yv B i
        · have c5 : Steps p.tables e below (s₁.setTop (entryFrame m #[.ref a, .ref b] 3)) (s₁.setTop (mkF m 9 #[.val (.ref a), .val (.ref b), .val (.int (Int32.ofNat i + 1))] [])) := c4.trans (by
            refine XS.icmpYes X0.here hexec rfl (pc0 := 21) rfl (hb hbytes d21) rfl (ii_eq_t hv) (by decide) rfl ?_
            refine iincV X0.here hexec rfl 1 (hb hbytes d26) (by decide) rfl rfl ?_
            refine XS.goto X0.here hexec rfl (pc0 := 29) rfl (hb hbytes d29) (by decide) rfl ?_
            exact Steps.refl _)
          rw [succ32] at c5
          exact ih (i + 1) (by omega) (fun j hj => by
            by_cases e : j = i
            · rw [e]; exact hv
            · exact he j (by omega)) c5
        · exact ⟨25, _, 0, Or.inl rfl, Or.inr ⟨rfl, fun q => hv (q.2 i (by omega))⟩, c4.trans (by
            refine XS.icmpNo X0.here hexec rfl (hb hbytes d21) rfl (ii_eq_f hv) ?_
            refine iconstV X0.here hexec rfl 0 (hb hbytes d24) (by decide) ?_
            exact Steps.refl _)⟩
    obtain ⟨pc, Ls, v, hpc, hv, cz⟩ := loop A.slots.size 0 (by omega) (fun j hj => absurd hj (Nat.not_lt_zero j)) c3
    have nv : narrow .boolean (.int v) = .int v := by rcases hv with ⟨rfl, -⟩ | ⟨rfl, -⟩ <;> rfl
    rcases hpc with rfl | rfl
    · exact ⟨s₁, some (.int v), _, _, _, X0, rfl, rfl, rfl, (fun h => by cases h), ⟨v, rfl, hh0, hv⟩, fun fs hl => cz.trans (X0.ireturnOut hexec hret nv (Or.inr (Or.inl rfl)) (hb hbytes d25) hl)⟩
    · exact ⟨s₁, some (.int v), _, _, _, X0, rfl, rfl, rfl, (fun h => by cases h), ⟨v, rfl, hh0, hv⟩, fun fs hl => cz.trans (X0.ireturnOut hexec hret nv (Or.inr (Or.inl rfl)) (hb hbytes d33) hl)⟩
  · have c3 : Steps p.tables e below (s₁.setTop (entryFrame m #[.ref a, .ref b] 3)) (s₁.setTop (mkF m 35 #[.val (.ref a), .val (.ref b), .unset] [.int 0])) := c2.trans (by
      refine XS.icmpYes X0.here hexec rfl (pc0 := 4) rfl (hb hbytes d4) rfl (ii_ne_t (ne32 a31 b31 hs)) (by decide) rfl ?_
      refine iconstV X0.here hexec rfl 0 (hb hbytes d34) (by decide) ?_
      exact Steps.refl _)
    exact ⟨s₁, some (.int 0), _, _, _, X0, rfl, rfl, rfl, (fun h => by cases h), ⟨0, rfl, hh0, Or.inr ⟨rfl, fun q => hs q.1⟩⟩, fun fs hl => c3.trans (X0.ireturnOut hexec hret rfl (Or.inr (Or.inl rfl)) (hb hbytes d35) hl)⟩
end LEq
theorem Cod.ty {cd : Int32} {n : Nat} {f : Nat → Int32} {V : Cell} (h : Cod cd n f V) : Typed .byte V := fun i v hv => by
  have hi : i < V.slots.size := (Array.getElem?_eq_some_iff.mp hv).1
  rcases h with ⟨-, k1, k2⟩ | ⟨-, k1, k2, -⟩
  · rw [(k2 i (by omega)).1] at hv; cases hv; exact fits_lo8 _
  · rcases Nat.mod_two_eq_zero_or_one i with e | e
    · obtain ⟨j, rfl⟩ : ∃ j, i = 2 * j := ⟨i / 2, by omega⟩
      rw [(k2 j (by omega)).1] at hv; cases hv; exact fits_lo8 _
    · obtain ⟨j, rfl⟩ : ∃ j, i = 2 * j + 1 := ⟨i / 2, by omega⟩
      rw [(k2 j (by omega)).2] at hv; cases hv; exact fits_lo8 _
/-- the same text -/
def SameT (n : Nat) (f : Nat → Int32) (k : Nat) (g : Nat → Int32) : Prop := n = k ∧ ∀ j, j < n → f j = g j
theorem lo8_inj {x y : Int32} (h0 : ¬ x < 0) (h1 : ¬ 255 < x) (k0 : ¬ y < 0) (k1 : ¬ 255 < y) (h : lo8 x = lo8 y) : x = y := by
  rw [← lo8_mask h0 h1, ← lo8_mask k0 k1, h]
/-- arrays coded by one coder are equal just where the texts are -/
theorem Cod.eqv {cd : Int32} {n k : Nat} {f g : Nat → Int32} {V V' : Cell} (h : Cod cd n f V) (h' : Cod cd k g V') (hf : ∀ j, j < n → ¬ f j < 0 ∧ ¬ 65535 < f j) (hg : ∀ j, j < k → ¬ g j < 0 ∧ ¬ 65535 < g j) : EqC V V' ↔ SameT n f k g := by
  have yvv : ∀ {W : Cell} {i : Nat} {x : Int32}, W.slots[i]? = some (.int x) → yv W i = x := fun q => by unfold yv; rw [q]
  rcases h with ⟨rfl, k1, k2⟩ | ⟨rfl, k1, k2, -⟩
  · rcases h' with ⟨-, m1, m2⟩ | ⟨e, -⟩
    · constructor
      · rintro ⟨e1, e2⟩
        refine ⟨by omega, fun j hj => ?_⟩
        have q := e2 j (by omega)
        rw [yvv (k2 j hj).1, yvv (m2 j (by omega)).1] at q
        exact lo8_inj (hf j hj).1 (k2 j hj).2 (hg j (by omega)).1 (m2 j (by omega)).2 q
      · rintro ⟨rfl, e2⟩
        refine ⟨by omega, fun j hj => ?_⟩
        rw [yvv (k2 j (by omega)).1, yvv (m2 j (by omega)).1, e2 j (by omega)]
    · exact absurd e (by decide)
  · rcases h' with ⟨e, -⟩ | ⟨-, m1, m2, -⟩
    · exact absurd e (by decide)
    · constructor
      · rintro ⟨e1, e2⟩
        refine ⟨by omega, fun j hj => ?_⟩
        have q1 := e2 (2 * j) (by omega)
        have q2 := e2 (2 * j + 1) (by omega)
        rw [yvv (k2 j hj).1, yvv (m2 j (by omega)).1] at q1
        rw [yvv (k2 j hj).2, yvv (m2 j (by omega)).2] at q2
        rw [← pair_says (hf j hj).1 (hf j hj).2, ← pair_says (hg j (by omega)).1 (hg j (by omega)).2, q1, q2]
      · rintro ⟨rfl, e2⟩
        refine ⟨by omega, fun i hi => ?_⟩
        rcases Nat.mod_two_eq_zero_or_one i with e | e
        · obtain ⟨j, rfl⟩ : ∃ j, i = 2 * j := ⟨i / 2, by omega⟩
          rw [yvv (k2 j (by omega)).1, yvv (m2 j (by omega)).1, e2 j (by omega)]
        · obtain ⟨j, rfl⟩ : ∃ j, i = 2 * j + 1 := ⟨i / 2, by omega⟩
          rw [yvv (k2 j (by omega)).2, yvv (m2 j (by omega)).2, e2 j (by omega)]
/-- two codings differ: so do the texts -/
theorem Cod.dif {cd cd' : Int32} {n k : Nat} {f g : Nat → Int32} {V V' : Cell} (h : Cod cd n f V) (h' : Cod cd' k g V') (hne : ¬ cd = cd') : ¬ SameT n f k g := by
  rintro ⟨rfl, e⟩
  rcases h with ⟨rfl, -, k2⟩ | ⟨rfl, -, -, j, hj, hw⟩
  · rcases h' with ⟨rfl, -⟩ | ⟨-, -, -, j, hj, hw⟩
    · exact hne rfl
    · exact (k2 j hj).2 (by rw [e j hj]; exact hw)
  · rcases h' with ⟨-, -, m2⟩ | ⟨rfl, -⟩
    · exact (m2 j hj).2 (by rw [← e j hj]; exact hw)
    · exact hne rfl
/-- an object of exactly C is an instance of C -/
theorem cinst {p : Program} {l : Launch} {e : Env} {R : Room} {s : State} {m : MethodId} {args : Array Value} {below : List Frame} {meth : Method} {c : Code} {T : State} {locs : List Loc} {cells slots : Nat} (X : Stand p l e R s m args below meth c T locs cells slots) (hexec : p.tables.exec = Jvm.exec) {own C : String} {index : Nat} (hown : s.vm.findClass own = some m.cls) (hlink : (Cond.classLink own index C).before args s = true) {a : Addr} (hE : Exact C a T)
    {g : JFrame} (hg : g.method = m) {rest : List Value} (hstack : g.stack = .ref a :: rest) (hdg : decode c.code g.pc = .ok (.instanceof index, 3)) :
    ∃ T', Stand p l e R s m args below meth c T' locs cells slots ∧ T'.heap = T.heap ∧ ∀ target, Steps p.tables e below (T'.setTop { g with pc := g.pc + 3, stack := .int 1 :: rest }) target → Steps p.tables e below (T.setTop g) target := by
  obtain ⟨cB, h1, D, h2, h3, h4⟩ := hE
  have h1' : s.vm.findClass C = some cB := by rw [← X.warmed.alike.findClass]; exact h1
  obtain ⟨vm', X', st⟩ := X.instanceofYes hexec hown hlink h2 h4 h1' (by rw [h3]; exact Jvm.Free.SB.assignable_self _ _) hg hstack hdg
  exact ⟨_, X', rfl, st⟩
theorem cself {p : Program} {l : Launch} {e : Env} {R : Room} {s : State} {m : MethodId} {args : Array Value} {below : List Frame} {meth : Method} {c : Code} {T : State} {locs : List Loc} {cells slots : Nat} (X : Stand p l e R s m args below meth c T locs cells slots) (hexec : p.tables.exec = Jvm.exec) {own C : String} {index : Nat} (hown : s.vm.findClass own = some m.cls) (hlink : (Cond.classLink own index C).before args s = true) {a : Addr} (hE : Exact C a T)
    {g : JFrame} (hg : g.method = m) {rest : List Value} (hstack : g.stack = .ref a :: rest) (hdg : decode c.code g.pc = .ok (.checkcast index, 3)) :
    ∃ T', Stand p l e R s m args below meth c T' locs cells slots ∧ T'.heap = T.heap ∧ ∀ target, Steps p.tables e below (T'.setTop { g with pc := g.pc + 3, stack := .ref a :: rest }) target → Steps p.tables e below (T.setTop g) target := by
  obtain ⟨cB, h1, D, h2, h3, h4⟩ := hE
  have h1' : s.vm.findClass C = some cB := by rw [← X.warmed.alike.findClass]; exact h1
  obtain ⟨vm', X', st⟩ := X.checkcastYes hexec hown hlink h2 h4 h1' (by rw [h3]; exact Jvm.Free.SB.assignable_self _ _) hg hstack hdg
  exact ⟨_, X', rfl, fun t h => st t (by rw [← hstack] at h; exact h)⟩
namespace SEq
def yN : MethodName := ⟨"java/lang/String", "equals", "(Ljava/lang/Object;)Z"⟩
abbrev yB : ByteArray := jdk_42_method_66_code
theorem d0 : decode yB 0 = .ok (.aload_n 0, 1) := by decide +kernel
theorem d1 : decode yB 1 = .ok (.aload_n 1, 1) := by decide +kernel
theorem d2 : decode yB 2 = .ok (.if_acmp (.ne) 5, 3) := by decide +kernel
theorem d5 : decode yB 5 = .ok (.iconst 1, 1) := by decide +kernel
theorem d6 : decode yB 6 = .ok (.ireturn, 1) := by decide +kernel
theorem d7 : decode yB 7 = .ok (.aload_n 1, 1) := by decide +kernel
theorem d8 : decode yB 8 = .ok (.instanceof 10, 3) := by decide +kernel
theorem d11 : decode yB 11 = .ok (.ifCond (.eq) 43, 3) := by decide +kernel
theorem d14 : decode yB 14 = .ok (.aload_n 1, 1) := by decide +kernel
theorem d15 : decode yB 15 = .ok (.checkcast 10, 3) := by decide +kernel
theorem d18 : decode yB 18 = .ok (.astore_n 2, 1) := by decide +kernel
theorem d19 : decode yB 19 = .ok (.getstatic 38, 3) := by decide +kernel
theorem d22 : decode yB 22 = .ok (.ifCond (.eq) 14, 3) := by decide +kernel
theorem d25 : decode yB 25 = .ok (.aload_n 0, 1) := by decide +kernel
theorem d26 : decode yB 26 = .ok (.getfield 15, 3) := by decide +kernel
theorem d29 : decode yB 29 = .ok (.aload_n 2, 1) := by decide +kernel
theorem d30 : decode yB 30 = .ok (.getfield 15, 3) := by decide +kernel
theorem d33 : decode yB 33 = .ok (.if_icmp (.ne) 21, 3) := by decide +kernel
theorem d36 : decode yB 36 = .ok (.aload_n 0, 1) := by decide +kernel
theorem d37 : decode yB 37 = .ok (.getfield 9, 3) := by decide +kernel
theorem d40 : decode yB 40 = .ok (.aload_n 2, 1) := by decide +kernel
theorem d41 : decode yB 41 = .ok (.getfield 9, 3) := by decide +kernel
theorem d44 : decode yB 44 = .ok (.invokestatic 541, 3) := by decide +kernel
theorem d47 : decode yB 47 = .ok (.ifCond (.eq) 7, 3) := by decide +kernel
theorem d50 : decode yB 50 = .ok (.iconst 1, 1) := by decide +kernel
theorem d51 : decode yB 51 = .ok (.goto 4, 3) := by decide +kernel
theorem d54 : decode yB 54 = .ok (.iconst 0, 1) := by decide +kernel
theorem d55 : decode yB 55 = .ok (.ireturn, 1) := by decide +kernel
def site : List Cond := [.classLink "java/lang/String" 10 "java/lang/String", .fieldLink "java/lang/String" 38 "java/lang/String" "COMPACT_STRINGS" "Z", .fieldLink "java/lang/String" 15 "java/lang/String" "coder" "B", .fieldLink "java/lang/String" 9 "java/lang/String" "value" "[B", LEq.tab] ++ staticW "java/lang/String" 541 LEq.yN
def tab : Cond := tabOf yN yB 3 (some .boolean) site
def P (x t : Addr) (V : Cell) (cd : Int32) (n : Nat) (f : Nat → Int32) (y t' : Addr) (V' : Cell) (cd' : Int32) (k : Nat) (g : Nat → Int32) (z : Int32) (args : Array Value) (s : State) : Prop := args = #[.ref x, .ref y] ∧ Txt x t V cd n f s ∧ Txt y t' V' cd' k g s ∧ StaticIs s "java/lang/String" "COMPACT_STRINGS" "Z" (.int z) ∧ ¬ z = 0
/-- equals(Object) of two Strings: whether the texts are the same -/
theorem law (l : Launch) (x t : Addr) (V : Cell) (cd : Int32) (n : Nat) (f : Nat → Int32) (y t' : Addr) (V' : Cell) (cd' : Int32) (k : Nat) (g : Nat → Int32) (z : Int32) : Law l yN 2 1 1 14 yB 3 (some .boolean) site (P x t V cd n f y t' V' cd' k g z) (Says01 (SameT n f k g)) [] 0 0 := by
  refine Law.of_walk (plainFor_of_name (by decide +kernel)) (by decide +kernel) (by decide +kernel) (by decide) (fun _ _ h => by rw [h.1]; rfl) (fun _ U U' hal hh h => ⟨h.1, h.2.1.mv hal hh, h.2.2.1.mv hal hh, h.2.2.2.1.there hal hh, h.2.2.2.2⟩) (fun r U U' V V' h1 hal h2 h => Says01.mv r U U' V V' h1 hal h2 h) ?_
  intro p e s m args below meth c s₁ X0 hexec hbytes hml hret hlk hnm hown hh0 W hP
  obtain ⟨rfl, hx, hy, s1, hz⟩ := hP
  have c1 : Steps p.tables e below (s₁.setTop (entryFrame m #[.ref x, .ref y] 3)) (s₁.setTop (mkF m 2 #[.val (.ref x), .val (.ref y), .unset] [.ref y, .ref x])) := Steps.trans (entry rfl) (by
    show Steps p.tables e below (s₁.setTop (mkF m 0 #[.val (.ref x), .val (.ref y), .unset] [])) _
    refine XS.aloadN X0.here hexec rfl (hb hbytes d0) rfl rfl ?_
    refine XS.aloadN X0.here hexec rfl (hb hbytes d1) rfl rfl ?_
    exact Steps.refl _)
  by_cases hxy : x = y
  · have c2 : Steps p.tables e below (s₁.setTop (entryFrame m #[.ref x, .ref y] 3)) (s₁.setTop (mkF m 6 #[.val (.ref x), .val (.ref y), .unset] [.int 1])) := c1.trans (by
      refine acmpNo X0.here hexec rfl (hb hbytes d2) rfl rfl rfl (by simp [acmp, hxy]) ?_
      refine iconstV X0.here hexec rfl 1 (hb hbytes d5) (by decide) ?_
      exact Steps.refl _)
    subst hxy
    have ec : cd = cd' := by
      obtain ⟨D, fd, a1, a2, a3⟩ := hx.2.2.1
      obtain ⟨D', fd', b1, b2, b3⟩ := hy.2.2.1
      cases a1.symm.trans b1
      obtain ⟨q1, q2, q3, q4⟩ := a2.1
      obtain ⟨r1, r2, r3, r4⟩ := b2.1
      cases q4.symm.trans r4
      cases a3.symm.trans b3; rfl
    have et : t = t' := by
      obtain ⟨D, fd, a1, a2, a3⟩ := hx.2.1
      obtain ⟨D', fd', b1, b2, b3⟩ := hy.2.1
      cases a1.symm.trans b1
      obtain ⟨q1, q2, q3, q4⟩ := a2.1
      obtain ⟨r1, r2, r3, r4⟩ := b2.1
      cases q4.symm.trans r4
      cases a3.symm.trans b3; rfl
    subst ec et
    have ev : V = V' := by cases hx.2.2.2.1.1.symm.trans hy.2.2.2.1.1; rfl
    subst ev
    have hs : SameT n f k g := (Cod.eqv hx.2.2.2.2.1 hy.2.2.2.2.1 hx.2.2.2.2.2 hy.2.2.2.2.2).mp ⟨rfl, fun _ _ => rfl⟩
    exact ⟨s₁, some (.int 1), _, _, _, X0, rfl, rfl, rfl, (fun h => by cases h), ⟨1, rfl, hh0, Or.inl ⟨rfl, hs⟩⟩, fun fs hl => c2.trans (X0.ireturnOut hexec hret rfl (Or.inr (Or.inl rfl)) (hb hbytes d6) hl)⟩
  · have c2 : Steps p.tables e below (s₁.setTop (entryFrame m #[.ref x, .ref y] 3)) (s₁.setTop (mkF m 8 #[.val (.ref x), .val (.ref y), .unset] [.ref y])) := c1.trans (by
      refine acmpYes X0.here hexec rfl (pc0 := 2) rfl (hb hbytes d2) rfl rfl rfl (by simp [acmp, hxy]) (by decide) rfl ?_
      refine XS.aloadN X0.here hexec rfl (hb hbytes d7) rfl rfl ?_
      exact Steps.refl _)
    obtain ⟨T3, X3, q3, st3⟩ := cinst X0 hexec hown (wk W (.classLink "java/lang/String" 10 "java/lang/String")) (hy.mv X0.warmed.alike hh0).1 (g := (mkF m 8 #[.val (.ref x), .val (.ref y), .unset] [.ref y])) rfl (rest := []) rfl (hb hbytes d8)
    have hh3 := q3.trans hh0
    have c4 : Steps p.tables e below (s₁.setTop (entryFrame m #[.ref x, .ref y] 3)) (T3.setTop (mkF m 15 #[.val (.ref x), .val (.ref y), .unset] [.ref y])) := (c2.trans (st3 _ (Steps.refl _))).trans (by
      refine XS.ifNo X3.here hexec rfl (hb hbytes d11) rfl (i0_eq_f (by decide)) ?_
      refine XS.aloadN X3.here hexec rfl (hb hbytes d14) rfl rfl ?_
      exact Steps.refl _)
    obtain ⟨T5, X5, q5, st5⟩ := cself X3 hexec hown (wk W (.classLink "java/lang/String" 10 "java/lang/String")) (hy.mv X3.warmed.alike hh3).1 (g := (mkF m 15 #[.val (.ref x), .val (.ref y), .unset] [.ref y])) rfl (rest := []) rfl (hb hbytes d15)
    have hh5 := q5.trans hh3
    have c6 : Steps p.tables e below (s₁.setTop (entryFrame m #[.ref x, .ref y] 3)) (T5.setTop (mkF m 19 #[.val (.ref x), .val (.ref y), .val (.ref y)] [])) := (c4.trans (st5 _ (Steps.refl _))).trans (by
      refine XS.astoreN X5.here hexec rfl (hb hbytes d18) rfl rfl rfl ?_
      exact Steps.refl _)
    obtain ⟨T7, X7, q7, st7⟩ := X5.sget hexec hown (wk W (.fieldLink "java/lang/String" 38 "java/lang/String" "COMPACT_STRINGS" "Z")) s1 (fun _ _ h => by rw [hh5]; exact h) (g := (mkF m 19 #[.val (.ref x), .val (.ref y), .val (.ref y)] [])) rfl (hb hbytes d19)
    have hh7 := q7.trans hh5
    have c8 : Steps p.tables e below (s₁.setTop (entryFrame m #[.ref x, .ref y] 3)) (T7.setTop (mkF m 26 #[.val (.ref x), .val (.ref y), .val (.ref y)] [.ref x])) := (c6.trans (st7 _ (Steps.refl _))).trans (by
      refine XS.ifNo X7.here hexec rfl (hb hbytes d22) rfl (i0_eq_f hz) ?_
      refine XS.aloadN X7.here hexec rfl (hb hbytes d25) rfl rfl ?_
      exact Steps.refl _)
    obtain ⟨T9, X9, q9, st9⟩ := X7.hget hexec hown (wk W (.fieldLink "java/lang/String" 15 "java/lang/String" "coder" "B")) (hx.mv X7.warmed.alike hh7).2.2.1 (g := (mkF m 26 #[.val (.ref x), .val (.ref y), .val (.ref y)] [.ref x])) rfl (rest := []) rfl (hb hbytes d26)
    have hh9 := q9.trans hh7
    have c10 : Steps p.tables e below (s₁.setTop (entryFrame m #[.ref x, .ref y] 3)) (T9.setTop (mkF m 30 #[.val (.ref x), .val (.ref y), .val (.ref y)] [.ref y, .int cd])) := (c8.trans (st9 _ (Steps.refl _))).trans (by
      refine XS.aloadN X9.here hexec rfl (hb hbytes d29) rfl rfl ?_
      exact Steps.refl _)
    obtain ⟨T11, X11, q11, st11⟩ := X9.hget hexec hown (wk W (.fieldLink "java/lang/String" 15 "java/lang/String" "coder" "B")) (hy.mv X9.warmed.alike hh9).2.2.1 (g := (mkF m 30 #[.val (.ref x), .val (.ref y), .val (.ref y)] [.ref y, .int cd])) rfl (rest := [.int cd]) rfl (hb hbytes d30)
    have hh11 := q11.trans hh9
    have c12 : Steps p.tables e below (s₁.setTop (entryFrame m #[.ref x, .ref y] 3)) (T11.setTop (mkF m 33 #[.val (.ref x), .val (.ref y), .val (.ref y)] [.int cd', .int cd])) := c10.trans (st11 _ (Steps.refl _))
    by_cases hcd : cd = cd'
    · subst hcd
      have c13 : Steps p.tables e below (s₁.setTop (entryFrame m #[.ref x, .ref y] 3)) (T11.setTop (mkF m 37 #[.val (.ref x), .val (.ref y), .val (.ref y)] [.ref x])) := c12.trans (by
        refine XS.icmpNo X11.here hexec rfl (hb hbytes d33) rfl (ii_ne_f rfl) ?_
        refine XS.aloadN X11.here hexec rfl (hb hbytes d36) rfl rfl ?_
        exact Steps.refl _)
      obtain ⟨T14, X14, q14, st14⟩ := X11.hget hexec hown (wk W (.fieldLink "java/lang/String" 9 "java/lang/String" "value" "[B")) (hx.mv X11.warmed.alike hh11).2.1 (g := (mkF m 37 #[.val (.ref x), .val (.ref y), .val (.ref y)] [.ref x])) rfl (rest := []) rfl (hb hbytes d37)
      have hh14 := q14.trans hh11
      have c15 : Steps p.tables e below (s₁.setTop (entryFrame m #[.ref x, .ref y] 3)) (T14.setTop (mkF m 41 #[.val (.ref x), .val (.ref y), .val (.ref y)] [.ref y, .ref t])) := (c13.trans (st14 _ (Steps.refl _))).trans (by
        refine XS.aloadN X14.here hexec rfl (hb hbytes d40) rfl rfl ?_
        exact Steps.refl _)
      obtain ⟨T16, X16, q16, st16⟩ := X14.hget hexec hown (wk W (.fieldLink "java/lang/String" 9 "java/lang/String" "value" "[B")) (hy.mv X14.warmed.alike hh14).2.1 (g := (mkF m 41 #[.val (.ref x), .val (.ref y), .val (.ref y)] [.ref y, .ref t])) rfl (rest := [.ref t]) rfl (hb hbytes d41)
      have hh16 := q16.trans hh14
      have c17 : Steps p.tables e below (s₁.setTop (entryFrame m #[.ref x, .ref y] 3)) (T16.setTop (mkF m 44 #[.val (.ref x), .val (.ref y), .val (.ref y)] [.ref t', .ref t])) := c15.trans (st16 _ (Steps.refl _))
      obtain ⟨v18, T18, X18, E18, g18⟩ := X16.callS hexec (LEq.law l t V t' V') hown (wks W (staticW "java/lang/String" 541 LEq.yN)) (wk W LEq.tab) (W := 0) (Nat.le_of_ble_eq_true rfl) (Nat.le_of_ble_eq_true rfl) (Nat.le_refl _) (Nat.le_refl _) (g := (mkF m 44 #[.val (.ref x), .val (.ref y), .val (.ref y)] [.ref t', .ref t])) rfl (by rw [hml]; rfl) c17 (argsL := [.ref t, .ref t']) (rest := []) rfl rfl (by show 2 * 0 + 0 ≤ _; decide) (hb hbytes d44) (⟨rfl, hx.2.2.2.1.mv X16.warmed.alike hh16, hx.2.2.2.2.1.ty, hy.2.2.2.1.mv X16.warmed.alike hh16, hy.2.2.2.2.1.ty⟩)
      obtain ⟨v, rfl, q18, hv⟩ := E18
      have iff := Cod.eqv hx.2.2.2.2.1 hy.2.2.2.2.1 hx.2.2.2.2.2 hy.2.2.2.2.2
      rcases hv with ⟨rfl, he⟩ | ⟨rfl, he⟩
      · have c19 : Steps p.tables e below (s₁.setTop (entryFrame m #[.ref x, .ref y] 3)) (T18.setTop (mkF m 55 #[.val (.ref x), .val (.ref y), .val (.ref y)] [.int 1])) := Steps.trans g18 (by
          refine XS.ifNo X18.here hexec rfl (hb hbytes d47) rfl (i0_eq_f (by decide)) ?_
          refine iconstV X18.here hexec rfl 1 (hb hbytes d50) (by decide) ?_
          refine XS.goto X18.here hexec rfl (pc0 := 51) rfl (hb hbytes d51) (by decide) rfl ?_
          exact Steps.refl _)
        exact ⟨T18, some (.int 1), _, _, _, X18, rfl, rfl, rfl, (fun h => by cases h), ⟨1, rfl, q18.trans hh16, Or.inl ⟨rfl, iff.mp he⟩⟩, fun fs hl => c19.trans (X18.ireturnOut hexec hret rfl (Or.inr (Or.inl rfl)) (hb hbytes d55) hl)⟩
      · have c19 : Steps p.tables e below (s₁.setTop (entryFrame m #[.ref x, .ref y] 3)) (T18.setTop (mkF m 55 #[.val (.ref x), .val (.ref y), .val (.ref y)] [.int 0])) := Steps.trans g18 (by
          refine XS.ifYes X18.here hexec rfl (pc0 := 47) rfl (hb hbytes d47) rfl (i0_eq_t rfl) (by decide) rfl ?_
          refine iconstV X18.here hexec rfl 0 (hb hbytes d54) (by decide) ?_
          exact Steps.refl _)
        exact ⟨T18, some (.int 0), _, _, _, X18, rfl, rfl, rfl, (fun h => by cases h), ⟨0, rfl, q18.trans hh16, Or.inr ⟨rfl, fun q => he (iff.mpr q)⟩⟩, fun fs hl => c19.trans (X18.ireturnOut hexec hret rfl (Or.inr (Or.inl rfl)) (hb hbytes d55) hl)⟩
    · have c13 : Steps p.tables e below (s₁.setTop (entryFrame m #[.ref x, .ref y] 3)) (T11.setTop (mkF m 55 #[.val (.ref x), .val (.ref y), .val (.ref y)] [.int 0])) := c12.trans (by
        refine XS.icmpYes X11.here hexec rfl (pc0 := 33) rfl (hb hbytes d33) rfl (ii_ne_t hcd) (by decide) rfl ?_
        refine iconstV X11.here hexec rfl 0 (hb hbytes d54) (by decide) ?_
        exact Steps.refl _)
      exact ⟨T11, some (.int 0), _, _, _, X11, rfl, rfl, rfl, (fun h => by cases h), ⟨0, rfl, hh11, Or.inr ⟨rfl, Cod.dif hx.2.2.2.2.1 hy.2.2.2.2.1 hcd⟩⟩, fun fs hl => c13.trans (X11.ireturnOut hexec hret rfl (Or.inr (Or.inl rfl)) (hb hbytes d55) hl)⟩
theorem pays {l : Launch} {R : Room} {p : Program} {e : Env} {below : List Frame} {s : State} {sargs : Array Value} {len W : Nat} (x t : Addr) (V : Cell) (cd : Int32) (n : Nat) (f : Nat → Int32) (y t' : Addr) (V' : Cell) (cd' : Int32) (k : Nat) (g : Nat → Int32) (z : Int32) (htab : tab.before sargs s = true) (hfr : 2 ≤ R.frames) (hlo : W + 28 ≤ R.locals) :
    Back l R p e below s sargs yN len W (fun A₁ a₁ => A₁.cells + 0 ≤ R.cells ∧ A₁.slots + 0 ≤ R.slots ∧ P x t V cd n f y t' V' cd' k g z a₁ A₁.U) (fun A₁ _ v₁ B₁ => Says01 (SameT n f k g) v₁ A₁.U B₁.U ∧ B₁.locs = A₁.locs ++ [] ∧ B₁.cells = A₁.cells + 0 ∧ B₁.slots = A₁.slots + 0) :=
  (law l x t V cd n f y t' V' cd' k g z).pays htab hfr (by omega)
end SEq
end StrChars
namespace StrChars.Road
open Jvm Sem ClassFile Op Lib Jvm.Stand Jvm.Free Jvm.Free.XT
open Jvm.Lib.Cold (StaticIs)
/-- the words of String.equals(Object) -/
abbrev wordsEq : List Jvm.Cond := [.code SEq.yN SEq.yB 3 (some .boolean), .initialized ST, .classLink ST 10 ST, .fieldLink ST 38 ST "COMPACT_STRINGS" "Z", .fieldLink ST 15 ST "coder" "B", .fieldLink ST 9 ST "value" "[B", .methodLink ST 541 LEq.yN, .static LEq.yN, .code LEq.yN LEq.yB 3 (some .boolean), .initialized "java/lang/StringLatin1"]
theorem tabEq_of {a : Array Value} {s : State} (h : ∀ w ∈ wordsEq, w.before a s = true) : SEq.tab.before a s = true := by
  have hl : LEq.tab.before a s = true := unparts (wk h (.code LEq.yN LEq.yB 3 (some .boolean))) (wks h (.initialized LEq.yN.cls :: LEq.site))
  have q := consq hl h
  exact unparts (wk q (.code SEq.yN SEq.yB 3 (some .boolean))) (wks q (.initialized SEq.yN.cls :: SEq.site))
theorem movedEq {Z s : State} {a0 args : Array Value} (hZ : Z.Warmed39 s.vm) (hw : ∀ d ∈ wordsEq, d.before a0 Z = true) : ∀ d ∈ wordsEq, d.before args s = true := fun d hd => by
  have t : ∀ d ∈ wordsEq, (d.onTables && d.keepsFace) = true := by decide +kernel
  exact RoadKit.mv hZ (hw d hd) (t d hd)
/-- the road's facts of a String, as the laws ask it -/
theorem txt_of {Z U : State} {a0 : Array Value} {kI : Nat} (wi : (Jvm.Cond.instantiable ST kI).before a0 Z = true) (al : Z.vm.Alike U.vm) {x t : Addr} {kb : ClassId} {cs : List Int32} {cd N2 : Int32} {vs : List Value} (E : RoadKit.Exa Z U.heap x ST) (V : RoadKit.Fld Z U.heap x ST "value" "[B" (.ref t)) (C : RoadKit.Fld Z U.heap x ST "coder" "B" (.int cd)) (K : RoadKit.Arv Z U.heap t kb .byte N2 vs (.int 0)) (hc : CodA cs cd N2 vs) (hb : ∀ c ∈ cs, ¬ c < 0 ∧ ¬ (65535 : Int32) < c) (l2 : cs.length ≤ 4000) :
    ∃ A, Txt x t A cd cs.length (fun j => cs.getD j 0) U := by
  obtain ⟨A, K1, K2, K3, K4, K5, K6⟩ := K
  have hcod := hc.cod (by omega) K3 K5
  obtain ⟨D, fV, fC, hB, F1, F2, g1, g2, -, -⟩ := strObj wi al E V C
  exact ⟨A, ⟨_, hB.2.2.1, D, hB.1, rfl, by cases q : D.vm <;> first | rfl | exact absurd q (hB.2.1.2 _)⟩, Has.of hB F1 g1, Has.of hB F2 g2, ⟨K1.1, State.isArrayOf_alike al K1.2.1, K1.2.2, by rcases hcod with ⟨-, q, -⟩ | ⟨-, q, -⟩ <;> omega⟩, hcod, fun j hj => by
    have e : cs.getD j 0 = cs[j] := by simp [List.getD_eq_getElem?_getD, hj]
    show ¬ cs.getD j 0 < 0 ∧ ¬ 65535 < cs.getD j 0
    rw [e]; exact hb _ (List.getElem_mem _)⟩
theorem same_list (cs ds : List Int32) : SameT cs.length (fun j => cs.getD j 0) ds.length (fun j => ds.getD j 0) ↔ cs = ds := by
  constructor
  · rintro ⟨e, q⟩
    refine List.ext_getElem e fun j h1 h2 => ?_
    have := q j h1
    simpa [List.getD_eq_getElem?_getD, h1, h2] using this
  · rintro rfl
    exact ⟨rfl, fun _ _ => rfl⟩
/-- **equals(Object) OF TWO SUCH STRINGS**: 1 just where the chars are the same -/
theorem eqW {p : Program} {l : Launch} {e : Env} {R : Room} {s : State} {args : Array Value} {below : List Frame} {len W : Nat} {Z : State} {a0 : Array Value} {h : Heap} (hZ : Z.Warmed39 s.vm) (hw : ∀ d ∈ wordsEq, d.before a0 Z = true) {kI : Nat} (wi : (Jvm.Cond.instantiable ST kI).before a0 Z = true)
    {x t : Addr} {kb : ClassId} {cs : List Int32} {cd N2 : Int32} {vs : List Value} (E : RoadKit.Exa Z h x ST) (V : RoadKit.Fld Z h x ST "value" "[B" (.ref t)) (C : RoadKit.Fld Z h x ST "coder" "B" (.int cd)) (K : RoadKit.Arv Z h t kb .byte N2 vs (.int 0)) (hc : CodA cs cd N2 vs) (hb : ∀ c ∈ cs, ¬ c < 0 ∧ ¬ (65535 : Int32) < c) (l2 : cs.length ≤ 4000)
    {y t' : Addr} {kb' : ClassId} {ds : List Int32} {cd' N2' : Int32} {vs' : List Value} (E' : RoadKit.Exa Z h y ST) (V' : RoadKit.Fld Z h y ST "value" "[B" (.ref t')) (C' : RoadKit.Fld Z h y ST "coder" "B" (.int cd')) (K' : RoadKit.Arv Z h t' kb' .byte N2' vs' (.int 0)) (hc' : CodA ds cd' N2' vs') (hb' : ∀ c ∈ ds, ¬ c < 0 ∧ ¬ (65535 : Int32) < c) (l2' : ds.length ≤ 4000)
    {z : Int32} (S : RoadKit.Sta Z h ST "COMPACT_STRINGS" "Z" (.int z)) (hz : ¬ z = 0) (hfr : 2 ≤ R.frames) (hlo : W + 28 ≤ R.locals) :
    Back l R p e below s args (⟨"java/lang/String", "equals", "(Ljava/lang/Object;)Z"⟩ : MethodName) len W (fun P a => a = #[.ref x, .ref y] ∧ P.U.heap = h ∧ P.cells + 0 ≤ R.cells ∧ P.slots + 0 ≤ R.slots)
      (fun P _ v B => ∃ L, (((v = some (.int 1) ∧ cs = ds) ∨ (v = some (.int 0) ∧ ¬ cs = ds)) ∧ L = [] ∧ B.U.heap = h) ∧ B.locs = P.locs ++ L ∧ B.cells = P.cells + 0 ∧ B.slots = P.slots + 0) := by
  intro m meth c P g ig mk a X hg hsize hdg hW hn hp'
  obtain ⟨rfl, rfl, r1, r2⟩ := hp'
  have al : Z.vm.Alike P.U.vm := hZ.alike.trans X.warmed.alike
  obtain ⟨A, hx⟩ := txt_of wi al E V C K hc hb l2
  obtain ⟨A', hy⟩ := txt_of wi al E' V' C' K' hc' hb' l2'
  obtain ⟨v, B, X', ⟨⟨w, hv, hh, hq⟩, hl, hk, hs⟩, st⟩ := SEq.pays x t A cd cs.length (fun j => cs.getD j 0) y t' A' cd' ds.length (fun j => ds.getD j 0) z (tabEq_of (movedEq hZ hw)) hfr hlo m meth c P g ig mk _ X hg hsize hdg hW hn ⟨r1, r2, rfl, hx, hy, sta_is al S, hz⟩
  refine ⟨v, B, X', ⟨[], ⟨?_, rfl, hh⟩, hl, hk, hs⟩, st⟩
  rcases hq with ⟨rfl, q⟩ | ⟨rfl, q⟩
  · exact Or.inl ⟨hv, (same_list cs ds).mp q⟩
  · exact Or.inr ⟨hv, fun e => q ((same_list cs ds).mpr e)⟩
end StrChars.Road
namespace StrChars.Road
open Jvm Sem ClassFile Op Lib Jvm.Stand Jvm.Free Jvm.Free.XT
open Jvm.Lib.Cold (StaticIs)
/-- what backV says of its String, as the contracts of this text ask it: cs's low bytes, coder 0 -/
theorem codOf {cs : List Int32} {n : Nat} (hn : cs.length = n) (hb : ∀ c ∈ cs, ¬ 255 < c) : CodA cs 0 (Int32.ofNat n) ((cs.map lo8).map Value.int) := Or.inl ⟨rfl, by rw [hn], by simp [List.map_map, Function.comp_def], hb⟩
end StrChars.Road
end Jvm.Pilot.@@N@@
namespace Jvm.Pilot.@@N@@
open Jvm Jvm.ClassFile Sem Op Lib Jvm.Free Jvm.Stand Jvm.LawKit Jvm.RoadKit Bundle Jvm.Pilot.@@N@@.Jvm.D
set_option maxRecDepth 65536
set_option maxHeartbeats 40000000
section OwnKit
variable {p : Program} {l : Launch} {e : Env} {R : Room} {s : State} {m : MethodId} {args : Array Value} {below : List Frame} {meth : Method} {c : Code} {T T' U Z : State} {locs : List Loc} {cells slots : Nat} {h h' h0 : Heap} {a b : Addr} {n0 : Nat}
abbrev HW (Z : State) (a0 : Array Value) : Prop := ∀ d ∈ tables_1, d.before a0 Z = true
abbrev vI (x : Int32) : Slot := .val (.int x)
abbrev vJ (x : Int64) : Slot := .val (.long x)
abbrev vR (x : Addr) : Slot := .val (.ref x)
abbrev vN : Slot := .val .null
abbrev vU : Slot := .unset
abbrev vS : Slot := .second
theorem lb {a b : Nat} (q : Nat.ble a b = true) : a ≤ b := Nat.le_of_ble_eq_true q
/-- from T with the frame f on top the invocation comes to its end, and P holds there -/
def own_Fin (tb : Tables) (e : Env) (below : List Frame) (P : State → Outcome → Prop) (T : State) (f : JFrame) : Prop := ∃ s₂ o, Steps tb e below (T.setTop f) s₂ ∧ s₂.status = .running ∧ Ended s₂ below o ∧ P s₂ o
theorem own_go {tb : Tables} {P : State → Outcome → Prop} {g g' : JFrame} (k : ∀ t, Steps tb e below (T'.setTop g') t → Steps tb e below (T.setTop g) t) (q : own_Fin tb e below P T' g') : own_Fin tb e below P T g := by
  obtain ⟨s₂, o, a, r⟩ := q; exact ⟨s₂, o, k _ a, r⟩
theorem own_to {tb : Tables} {P : State → Outcome → Prop} {g g' : JFrame} (k : Steps tb e below (T.setTop g) (T'.setTop g')) (q : own_Fin tb e below P T' g') : own_Fin tb e below P T g := by
  obtain ⟨s₂, o, a, r⟩ := q; exact ⟨s₂, o, k.trans a, r⟩
theorem og {tb : Tables} {P : State → Outcome → Prop} {g : JFrame} (T' : State) (g' : JFrame) (k : ∀ t, Steps tb e below (T'.setTop g') t → Steps tb e below (T.setTop g) t) (q : own_Fin tb e below P T' g') : own_Fin tb e below P T g := own_go k q
theorem ot {tb : Tables} {P : State → Outcome → Prop} {g : JFrame} (T' : State) (g' : JFrame) (k : Steps tb e below (T.setTop g) (T'.setTop g')) (q : own_Fin tb e below P T' g') : own_Fin tb e below P T g := own_to k q
def own_PN (s : State) (Q : Option Value → Heap → List Loc → Prop) (rc rs : Nat) : State → Outcome → Prop := fun U o => ∃ v L, o = .returned v ∧ Q v U.heap L ∧ FrameEnd s o U L rc rs
/-- a body's contract: from the heap h0 it returns, and Q says what -/
def own_CN (l : Launch) (Z : State) (y : MethodName) (bytes : ByteArray) (maxL : Nat) (ret : Option FieldType) (ws : List Jvm.Cond) (rm : Room) (as : Array Value) (h0 : Heap) (Q : Option Value → Heap → List Loc → Prop) : Prop :=
  MetFree l y (head1 (Jvm.Cond.code y bytes maxL ret :: ws) rm) (fun a U => a = as ∧ Z.Warmed39 U.vm ∧ U.heap = h0) (fun _ _ _ _ _ => True) (fun _ U o U' => ∃ v L, o = .returned v ∧ Q v U'.heap L ∧ FrameEnd U o U' L rm.cells rm.slots)
theorem own_entryN {y : MethodName} {bytes : ByteArray} {maxL : Nat} {ret : Option FieldType} {ws : List Jvm.Cond} {rm : Room} {as : Array Value} {Q : Option Value → Heap → List Loc → Prop} (hpn : plainFor y = true)
    (body : ∀ (p : Program) (e : Env) (s : State) (m : MethodId) (below : List Frame) (meth : Method) (c : Code) (s₁ : State), p.tables.exec = Jvm.exec → c.code = bytes → c.maxLocals = maxL → s.vm.findClass y.cls = some m.cls → meth.name = y.name → meth.sig.returnType = ret → meth.locks = false → Z.Warmed39 s.vm → s.heap = h0 →
      Stand p l e rm s m as below meth c s₁ [] 0 0 → s₁.heap = h0 → own_Fin p.tables e below (own_PN s Q rm.cells rm.slots) s₁ (entryFrame m as maxL)) : own_CN l Z y bytes maxL ret ws rm as h0 Q := by
  refine MetFree.of_bodySF hpn hisR ?_
  intro p e s m args below meth c s₁ Bd hml0 hP hK
  obtain ⟨rfl, hZ, hh⟩ := hP
  exact body p e s m below meth c s₁ Bd.exec Bd.bytes hml0 (findClass_of_methodNamed Bd.named) (name_of_methodNamed Bd.named Bd.method).1 Bd.returns Bd.notSynchronized hZ hh (Stand.of_body Bd) (by rw [← hh, Bd.state]; rfl)
section Calls
variable {a0 : Array Value} {own C D : String} {index maxL W : Nat} {y : MethodName} {bytes : ByteArray} {ret : Option FieldType} {rm : Room} {Q : Option Value → Heap → List Loc → Prop} {g : JFrame} {argsL rest : List Value}
def own_nm (a W maxL : Nat) (rm R : Room) (cells slots : Nat) : Bool := Nat.ble a W && (Nat.ble (rm.frames + 1) R.frames && (Nat.ble (W + (maxL + 11) + rm.locals) R.locals && (Nat.ble (cells + rm.cells) R.cells && Nat.ble (slots + rm.slots) R.slots)))
theorem own_nm_e {a W maxL : Nat} {rm R : Room} {cells slots : Nat} (q : own_nm a W maxL rm R cells slots = true) : a ≤ W ∧ rm.frames + 1 ≤ R.frames ∧ W + (maxL + 11) + rm.locals ≤ R.locals ∧ cells + rm.cells ≤ R.cells ∧ slots + rm.slots ≤ R.slots := by
  simpa [own_nm, Nat.ble_eq] using q
theorem own_nr {meth : Method} {t : FieldType} {v : Option Value} (q : meth.sig.returnType = some t) : meth.sig.returnType = none → v = none := fun h => by rw [q] at h; cases h
theorem own_vc (X : Stand p l e R s m args below meth c T locs cells slots) (hx : p.tables.exec = Jvm.exec) (hZ : Z.Warmed39 s.vm) (hown : s.vm.findClass own = some m.cls) (w1 : (Jvm.Cond.methodLink own index y).before a0 Z = true) (w2 : (Jvm.Cond.declares y).before a0 Z = true) (w3 : (Jvm.Cond.selects C y y).before a0 Z = true) (w4 : (Jvm.Cond.instanceMethod y).before a0 Z = true) (E : Exa Z h a C)
    (hM : own_CN l Z y bytes maxL ret [] rm (.ref a :: argsL).toArray h Q) (wc : (Jvm.Cond.code y bytes maxL ret).before a0 Z = true) (wz : (Jvm.Cond.initialized y.cls).before a0 Z = true) (eT : T.heap = h) (hg : g.method = m) (hsize : g.locals.size = c.maxLocals) (hlen : ∀ sig, parseMethodDescriptor y.desc = some sig → argsL.length = sig.parameters.length) (hs : g.stack = argsL.reverse ++ .ref a :: rest)
    (hd : decode c.code g.pc = .ok (.invokevirtual index, 3)) (nq : own_nm (2 * g.monitorRoom + (rest.map fun v => v.category).sum) W maxL rm R cells slots = true) (hy : y.cls ≠ "java/lang/invoke/MethodHandle" ∧ y.cls ≠ "java/lang/invoke/VarHandle" := by decide) :
    ∃ v T' L, Stand p l e R s m args below meth c T' (locs ++ L) (cells + rm.cells) (slots + rm.slots) ∧ Q v T'.heap L ∧ Steps p.tables e below (T.setTop g) (T'.setTop { g with pc := g.pc + 3, stack := v.toList ++ rest }) := by
  obtain ⟨hW, hf, hl, hc, hsl⟩ := own_nm_e nq
  obtain ⟨cB, kB, q1, q2, q3⟩ := isOf hZ eT E
  obtain ⟨v, vm1, ⟨T', L', c', s'⟩, -, X', ⟨L, hQ, l1, l2, l3⟩, st⟩ := X.virtualBack hx (y := y) (z := y) hown (mvT hZ w1) (mvT hZ w2) (notFace_of_selects (args := #[]) (mvT hZ w3)) (mvT hZ w3) (mvT hZ w4) hy (backOf (W := W) hM hZ wc wz hf hl) q1 q3 hg hsize (Steps.refl _) hlen hs hW hd (fun _ _ => ⟨rfl, eT, hc, hsl⟩)
  dsimp only [Pt.U, Pt.locs, Pt.cells, Pt.slots] at X' l1 l2 l3 st hQ
  subst l1 l2 l3
  exact ⟨v, T', L, X', hQ, st⟩
theorem own_sc (X : Stand p l e R s m args below meth c T locs cells slots) (hx : p.tables.exec = Jvm.exec) (hZ : Z.Warmed39 s.vm) (hi : y.name = "<init>") (hown : s.vm.findClass own = some m.cls) (w1 : (Jvm.Cond.methodLink own index y).before a0 Z = true) (w4 : (Jvm.Cond.instanceMethod y).before a0 Z = true)
    (hM : own_CN l Z y bytes maxL none [] rm (.ref a :: argsL).toArray h Q) (wc : (Jvm.Cond.code y bytes maxL none).before a0 Z = true) (wz : (Jvm.Cond.initialized y.cls).before a0 Z = true) (eT : T.heap = h) (hg : g.method = m) (hsize : g.locals.size = c.maxLocals) (hlen : ∀ sig, parseMethodDescriptor y.desc = some sig → argsL.length = sig.parameters.length) (hs : g.stack = argsL.reverse ++ .ref a :: rest)
    (hd : decode c.code g.pc = .ok (.invokespecial index, 3)) (nq : own_nm (2 * g.monitorRoom + (rest.map fun v => v.category).sum) W maxL rm R cells slots = true) (hy : y.cls ≠ "java/lang/invoke/MethodHandle" ∧ y.cls ≠ "java/lang/invoke/VarHandle" := by decide) :
    ∃ v T' L, Stand p l e R s m args below meth c T' (locs ++ L) (cells + rm.cells) (slots + rm.slots) ∧ Q v T'.heap L ∧ Steps p.tables e below (T.setTop g) (T'.setTop { g with pc := g.pc + 3, stack := v.toList ++ rest }) := by
  obtain ⟨hW, hf, hl, hc, hsl⟩ := own_nm_e nq
  obtain ⟨v, vm1, ⟨T', L', c', s'⟩, -, X', ⟨L, hQ, l1, l2, l3⟩, st⟩ := X.specialBack hx (y := y) hi hown (mvT hZ w1) (mvT hZ w4) (mvT hZ wc) hy (backOf (W := W) hM hZ wc wz hf hl) hg hsize (Steps.refl _) (a := a) hlen hs hW hd (fun _ _ => ⟨rfl, eT, hc, hsl⟩)
  dsimp only [Pt.U, Pt.locs, Pt.cells, Pt.slots] at X' l1 l2 l3 st hQ
  subst l1 l2 l3
  exact ⟨v, T', L, X', hQ, st⟩
theorem own_tc (X : Stand p l e R s m args below meth c T locs cells slots) (hx : p.tables.exec = Jvm.exec) (hZ : Z.Warmed39 s.vm) (hown : s.vm.findClass own = some m.cls) (w1 : (Jvm.Cond.methodLink own index y).before a0 Z = true) (w4 : (Jvm.Cond.static y).before a0 Z = true)
    (hM : own_CN l Z y bytes maxL ret [] rm argsL.toArray h Q) (wc : (Jvm.Cond.code y bytes maxL ret).before a0 Z = true) (wz : (Jvm.Cond.initialized y.cls).before a0 Z = true) (eT : T.heap = h) (hg : g.method = m) (hsize : g.locals.size = c.maxLocals) (hlen : ∀ sig, parseMethodDescriptor y.desc = some sig → argsL.length = sig.parameters.length) (hs : g.stack = argsL.reverse ++ rest)
    (hd : decode c.code g.pc = .ok (.invokestatic index, 3)) (nq : own_nm (2 * g.monitorRoom + (rest.map fun v => v.category).sum) W maxL rm R cells slots = true) (hy : y.cls ≠ "java/lang/invoke/MethodHandle" ∧ y.cls ≠ "java/lang/invoke/VarHandle" := by decide) :
    ∃ v T' L, Stand p l e R s m args below meth c T' (locs ++ L) (cells + rm.cells) (slots + rm.slots) ∧ Q v T'.heap L ∧ Steps p.tables e below (T.setTop g) (T'.setTop { g with pc := g.pc + 3, stack := v.toList ++ rest }) := by
  obtain ⟨hW, hf, hl, hc, hsl⟩ := own_nm_e nq
  obtain ⟨v, vm1, ⟨T', L', c', s'⟩, -, X', ⟨L, hQ, l1, l2, l3⟩, st⟩ := Jvm.LawKit.callS X hx (y := y) hown (mvT hZ w1) (mvT hZ w4) (mvT hZ wz) (mvT hZ wc) hy (backOf (W := W) hM hZ wc wz hf hl) hg hsize hlen hs hW hd (fun _ _ => ⟨rfl, eT, hc, hsl⟩)
  dsimp only [Pt.U, Pt.locs, Pt.cells, Pt.slots] at X' l1 l2 l3 st hQ
  subst l1 l2 l3
  exact ⟨v, T', L, X', hQ, st _ (Steps.refl _)⟩
theorem own_sel {s : State} {args : Array Value} {y : MethodName} {C : String} (h : (Cond.selects C y y).before args s = true) (hp : s.PrivateAt y) (hi : (Cond.instanceMethod y).before args s = true) (hy : y.cls ≠ "java/lang/invoke/MethodHandle" ∧ y.cls ≠ "java/lang/invoke/VarHandle") : (Cond.selects y.cls y y).before args s = true := by
  obtain ⟨mk, meth, hn, hm, -, -⟩ := Cond.instanceMethod_spec hi
  obtain ⟨_, _, m2, -, -, q3, -, k, hk, hki⟩ := Cond.selects_spec h
  cases hn.symm.trans q3
  exact Jvm.Stand.selects_self_of_private (findClass_of_methodNamed hn) hk hki hp hi hy
theorem own_pc (X : Stand p l e R s m args below meth c T locs cells slots) (hx : p.tables.exec = Jvm.exec) (hZ : Z.Warmed39 s.vm) (hown : s.vm.findClass own = some m.cls) (w1 : (Jvm.Cond.methodLink own index y).before a0 Z = true) (w3 : (Jvm.Cond.selects D y y).before a0 Z = true) (w4 : (Jvm.Cond.instanceMethod y).before a0 Z = true) (wp : (Jvm.Cond.privateMethod y).before a0 Z = true) (E : Exa Z h a C)
    (hM : own_CN l Z y bytes maxL ret [] rm (.ref a :: argsL).toArray h Q) (wc : (Jvm.Cond.code y bytes maxL ret).before a0 Z = true) (wz : (Jvm.Cond.initialized y.cls).before a0 Z = true) (eT : T.heap = h) (hg : g.method = m) (hsize : g.locals.size = c.maxLocals) (hlen : ∀ sig, parseMethodDescriptor y.desc = some sig → argsL.length = sig.parameters.length) (hs : g.stack = argsL.reverse ++ .ref a :: rest)
    (hd : decode c.code g.pc = .ok (.invokevirtual index, 3)) (nq : own_nm (2 * g.monitorRoom + (rest.map fun v => v.category).sum) W maxL rm R cells slots = true) (hy : y.cls ≠ "java/lang/invoke/MethodHandle" ∧ y.cls ≠ "java/lang/invoke/VarHandle" := by decide) :
    ∃ v T' L, Stand p l e R s m args below meth c T' (locs ++ L) (cells + rm.cells) (slots + rm.slots) ∧ Q v T'.heap L ∧ Steps p.tables e below (T.setTop g) (T'.setTop { g with pc := g.pc + 3, stack := v.toList ++ rest }) := by
  obtain ⟨hW, hf, hl, hc, hsl⟩ := own_nm_e nq
  obtain ⟨cq, q, q'⟩ := Exa.cell E
  obtain ⟨v, vm1, ⟨T', L', c', s'⟩, -, X', ⟨L, hQ, l1, l2, l3⟩, st⟩ := X.privateBack hx (y := y) hown (mvT hZ w1) (mvT hZ w4) (own_sel (mvT hZ w3) (Cond.privateMethod_at (mvP hZ wp (args := #[]))) (mvT hZ w4) hy) (Cond.privateMethod_at (mvP hZ wp (args := #[]))) (mvT hZ wc) hy (backOf (W := W) hM hZ wc wz hf hl) hg hsize (Steps.refl _) (a := a) (by rw [eT]; exact q) q' hlen hs hW hd (fun _ _ => ⟨rfl, eT, hc, hsl⟩)
  dsimp only [Pt.U, Pt.locs, Pt.cells, Pt.slots] at X' l1 l2 l3 st hQ
  subst l1 l2 l3
  exact ⟨v, T', L, X', hQ, st⟩
end Calls
theorem own_leaveN (X : Stand p l e R s m args below meth c T locs cells slots) (hlk : meth.locks = false) {Q : Option Value → Heap → List Loc → Prop} {v : Option Value} (hv : meth.sig.returnType = none → v = none) {rc rs : Nat} (hc : cells ≤ rc) (hs : slots ≤ rs) (hQ : Q v T.heap locs) {f : JFrame}
    (st : ∀ fs, (∀ (f : JFrame) (acts : List Action), f.method = m → f.locked = none → f.entered = [] → (doReturn e (T.setTop f) acts v).1 = T.setFrames fs) → Steps p.tables e below (T.setTop f) (T.setFrames fs)) : own_Fin p.tables e below (own_PN s Q rc rs) T f := by
  obtain ⟨fs, hr, hrun, hended, hW, hsame⟩ := X.leave hv hlk
  exact ⟨_, _, st fs hr, hrun, hended, _, _, rfl, hQ, ⟨_, rfl⟩, hW, hsame.mono hc hs⟩
theorem own_w {a0 : Array Value} (hw : ∀ d ∈ tables_1, d.before a0 Z = true) (i : Nat) {d : Jvm.Cond} (q : tables_1[i]? = some d := by rfl) : d.before a0 Z = true := hw d (List.mem_of_getElem? q)
abbrev own_by (cs : List Int32) : List Value := (cs.map (fun c => c.toInt8.toInt32)).map Value.int
theorem own_bst {k : ClassId} {z j x : Int32} {cs : List Int32} {n : Nat} (X : Stand p l e R s m args below meth c T locs cells slots) (hx : p.tables.exec = Jvm.exec) (hZ : Z.Warmed39 s.vm) (eT : T.heap = h) (V : Arv Z h a k .byte z (own_by cs) (.int (0 : Int32))) (hn : cs.length = n) (hj : j.toNatClampNeg = n) (hb : ¬ j < 0 ∧ j < z)
    {g : JFrame} (hg : g.method = m) {rest : List Value} (hs : g.stack = .int x :: .int j :: .ref a :: rest) (hd : decode c.code g.pc = .ok (.bastore, 1)) :
    ∃ T' h', Stand p l e R s m args below meth c T' (locs ++ [⟨a, j.toNatClampNeg⟩]) cells slots ∧ T'.heap = h' ∧ Wr h h' a j.toNatClampNeg (.int (nar .byte x)) ∧ Arv Z h' a k .byte z (own_by (cs ++ [x])) (.int (0 : Int32)) ∧ ∀ target, Steps p.tables e below (T'.setTop { g with pc := g.pc + 1, stack := rest }) target → Steps p.tables e below (T.setTop g) target := by
  obtain ⟨cl, A, q1, q2, q3, H, G⟩ := V.pad (pad_rep (own_by cs) (.int (0 : Int32)) 1)
  obtain ⟨T', h', X', e', W, st⟩ := stB X hx hZ eT A (j := j) (inb_of q2 hb) hg hs hd
  refine ⟨T', h', X', e', W, ?_, st⟩
  have q : Arv Z h' a k .byte z ((own_by cs ++ List.replicate 1 (Value.int 0)).set n (.int (nar .byte x))) (.int (0 : Int32)) := Arv.set A q1 q2 q3 H G (fits_nar_byte x) W n hj (by simp [own_by, hn])
  have e : (own_by cs ++ List.replicate 1 (Value.int 0)).set n (.int (nar .byte x)) = own_by (cs ++ [x]) := by
    rw [List.set_append_right _ _ (by simp [own_by, hn])]; simp [own_by, hn]; rfl
  rw [e] at q; exact q
theorem own_by_app (a b : List Int32) : own_by (a ++ b) = own_by a ++ own_by b := by simp [own_by]
theorem own_la {a b : List Int32} {n m : Nat} (h : a.length = n) (k : b.length = m) : (a ++ b).length = n + m := by rw [List.length_append, h, k]
theorem own_happ {a b : List Int32} (h : ∀ c ∈ a, ¬ c < 0 ∧ ¬ (255 : Int32) < c) (k : ∀ c ∈ b, ¬ c < 0 ∧ ¬ (255 : Int32) < c) : ∀ c ∈ a ++ b, ¬ c < 0 ∧ ¬ (255 : Int32) < c := fun c hc => (List.mem_append.mp hc).elim (h c) (k c)
theorem own_hpl (a : List Int32) (h : a.all (fun c => !decide (c < 0) && !decide ((255 : Int32) < c)) = true) : ∀ c ∈ a, ¬ c < 0 ∧ ¬ (255 : Int32) < c := fun c hc => by
  have q := List.all_eq_true.mp h c hc
  simpa using q
theorem own_le4 {a : List Int32} {n : Nat} (h : a.length = n) (q : Nat.ble n 4000 = true) : a.length ≤ 4000 := h ▸ Nat.le_of_ble_eq_true q
theorem own_ltl {a : List Int32} {n i : Nat} (h : a.length = n) (q : Nat.ble (i + 1) n = true) : i < a.length := h ▸ Nat.le_of_ble_eq_true q
theorem own_osz (O : Old Z n0 h) : n0 ≤ h.size := O.1 ▸ O.2.1
theorem own_ne_old (q : a < Z.heap.size) (O : Old Z n0 h) (r : n0 ≤ b) : a ≠ b := O.ne q r
theorem own_ne_arv {a0 : Array Value} {C : String} {k : Nat} {kc : ClassId} {ty : FieldType} {z : Int32} {vs : List Value} {dv : Value} (F : Exa Z h a C) (wi : (Jvm.Cond.instantiable C k).before a0 Z = true) (G : Arv Z h b kc ty z vs dv) : a ≠ b := by
  obtain ⟨_, A, -⟩ := G; exact ne_arr F wi A
theorem own_cat {v : Value} (q : v.isRef = true) : v.category = 1 := by rcases ref_cases q with rfl | ⟨_, rfl⟩ <;> rfl
theorem own_same {s : State} {args : Array Value} {y z : MethodName} {C : String} (h : (Cond.selects C z z).before args s = true) (hi : (Cond.instanceMethod y).before args s = true) (e : z.cls = y.cls) (hy : y.cls ≠ "java/lang/invoke/MethodHandle" ∧ y.cls ≠ "java/lang/invoke/VarHandle") : (Cond.sameMethod y.cls y.cls y.name y.desc).before args s = true := by
  obtain ⟨mk, meth, hn, hm, -, -⟩ := Cond.instanceMethod_spec hi
  obtain ⟨_, _, m2, -, -, q3, -, k, hk, hki⟩ := Cond.selects_spec h
  have f1 := findClass_of_methodNamed hn
  have f2 := findClass_of_methodNamed q3
  rw [e] at f2
  have hc : m2.cls = mk.cls := Option.some.inj (f2.symm.trans f1)
  rw [hc] at hk
  have hf : s.methodFound? y.cls y.name y.desc = some mk := State.methodFound?_of_named hn hy
  simp [Cond.before, Cond.holds, Cond.value, f1, hf, hn, hk, hki]
theorem own_nf {s : State} {args : Array Value} {y z : MethodName} {C : String} (h : (Cond.selects C z z).before args s = true) (e : z.cls = y.cls) : NotFace s y := fun r0 h0 => by
  obtain ⟨_, _, m2, -, -, q3, -, k, hk, hki⟩ := Cond.selects_spec h
  have f1 := findClass_of_methodNamed h0
  have f2 := findClass_of_methodNamed q3
  rw [e] at f2
  have hc : m2.cls = r0.cls := Option.some.inj (f2.symm.trans f1)
  rw [hc] at hk
  exact ⟨k, hk, hki⟩
theorem own_nsr {a0 : Array Value} {O K : String} {n : Nat} (w : (Cond.noSuperclass O).before a0 Z = true) (wk : (Cond.instantiable K n).before a0 Z = true) (hn : O ≠ K) : NS Z O K := by
  obtain ⟨c, k, h1, h2, h3, -, -⟩ := Cond.noSuperclass_spec w
  obtain ⟨t, k2, g1, -⟩ := Cond.instantiable_spec wk
  have ne := ids_ne h1 g1 hn
  refine ⟨c, t, h1, g1, fun fuel => ?_⟩
  cases fuel with
  | zero => rfl
  | succ f => simp [Vm.isSubclassAux, ne, h2, h3]
theorem own_nsn {a0 : Array Value} {C S K : String} {n : Nat} (w : (Cond.superclass C S).before a0 Z = true) (wk : (Cond.instantiable K n).before a0 Z = true) (N : NS Z C K) (hn : C ≠ K) : ∃ c t, Z.vm.findClass C = some c ∧ Z.vm.findClass K = some t ∧ Z.vm.assignable c t = false := by
  obtain ⟨c, t, h0, g0, n3⟩ := N
  obtain ⟨p, k, kp, h1, h2, h3, h4, h5, -, h7⟩ := Cond.superclass_spec h0 w
  obtain ⟨t', k', q1, q2, q3, q4, -⟩ := Cond.instantiable_spec wk
  cases g0.symm.trans q1
  have q5 : k'.isInterface = false := (Bool.or_eq_false_iff.mp q4).1
  have ne := ids_ne h0 g0 hn
  refine ⟨c, t, h0, g0, ?_⟩
  show Z.vm.assignableAux (255 + 1) c t = false
  simp [Vm.assignableAux, ne, h2, q2, h5, q3, q5, Vm.isSubclass, n3]
theorem own_evM {s : State} {args : Array Value} {first : State} {o : Option Outcome} {idx : List Nat} {C : String} {cc : ClassId} {k : Class} {mr : Addr} (h1 : s.vm.findClass C = some cc) (h2 : s.vm.classes[cc]? = some k) (h3 : k.mirror = some mr) : (Term.mirror C).eval args first o idx s = some (.ref mr) := by
  simp only [Term.eval, h1, h2, h3, Option.bind_some, Option.bind_eq_bind]; rfl
def own_Mi (Z : State) (C : String) (m : Addr) : Prop := ∃ (c : ClassId) (k : Class), Z.vm.findClass C = some c ∧ Z.vm.classes[c]? = some k ∧ k.mirror = some m
theorem own_ldm (X : Stand p l e R s m args below meth c T locs cells slots) (hx : p.tables.exec = Jvm.exec) (hZ : Z.Warmed39 s.vm) {a0 : Array Value} {own C : String} {index : Nat} (hown : s.vm.findClass own = some m.cls) (w : (Cond.classLink own index C).before a0 Z = true) (eT : T.heap = h) {mr : Addr} (M : own_Mi Z C mr) {g : JFrame} (hg : g.method = m) (hd : decode c.code g.pc = .ok (.ldc index, 2)) :
    ∃ T', Stand p l e R s m args below meth c T' locs cells slots ∧ T'.heap = h ∧ ∀ target, Steps p.tables e below (T'.setTop { g with pc := g.pc + 2, stack := .ref mr :: g.stack }) target → Steps p.tables e below (T.setTop g) target := by
  obtain ⟨cc, kc, m1, m2, m3⟩ := M
  obtain ⟨k', q, ek⟩ := hZ.alike.2.2 _ _ m2
  obtain ⟨vm', X', st⟩ := X.ldcMirror hx hown (mvT hZ w) (a := mr) (own_evM (by rw [hZ.alike.findClass]; exact m1) q (by rw [ek]; exact m3)) hg hd
  exact ⟨_, X', eT, st⟩
theorem own_nx {v : Value} {C : String} (q : v.isRef = true) : narrow (.object C) v = v := by rcases ref_cases q with rfl | ⟨_, rfl⟩ <;> rfl
theorem own_nxa {v : Value} {C : FieldType} (q : v.isRef = true) : narrow (.array C) v = v := by rcases ref_cases q with rfl | ⟨_, rfl⟩ <;> rfl
theorem own_fxa {v : Value} {C : FieldType} (q : v.isRef = true) : fits (.array C) v = true := by rcases ref_cases q with rfl | ⟨_, rfl⟩ <;> rfl
theorem own_ob (X : Stand p l e R s m args below meth c T locs cells slots) (hx : p.tables.exec = Jvm.exec) (hZ : Z.Warmed39 s.vm) {a0 : Array Value} {own : String} {idx : Nat} (hown : s.vm.findClass own = some m.cls) (w1 : (Cond.methodLink own idx Lib.objectInit).before a0 Z = true) (w2 : (Cond.instanceMethod Lib.objectInit).before a0 Z = true) (w3 : (Cond.code Lib.objectInit ⟨#[0xb1]⟩ 1 none).before a0 Z = true) (eT : T.heap = h)
    {g : JFrame} (hg : g.method = m) (hsize : g.locals.size = c.maxLocals) {rest : List Value} (hs : g.stack = .ref a :: rest) (hd : decode c.code g.pc = .ok (.invokespecial idx, 3)) (hf : 1 ≤ R.frames) (hlo : 2 * g.monitorRoom + (rest.map fun v => v.category).sum + 12 ≤ R.locals) :
    ∃ T', Stand p l e R s m args below meth c T' locs cells slots ∧ T'.heap = h ∧ ∀ target, Steps p.tables e below (T'.setTop { g with pc := g.pc + 3, stack := rest }) target → Steps p.tables e below (T.setTop g) target := by
  obtain ⟨vm', X', st⟩ := X.initObject hx hown (mvT hZ w1) (mvT hZ w2) (mvT hZ w3) hg hsize hs hd hf hlo
  exact ⟨_, X', eT, st⟩
theorem own_fx {v : Value} {C : String} (q : v.isRef = true) : fits (.object C) v = true := by rcases ref_cases q with rfl | ⟨_, rfl⟩ <;> rfl
theorem own_castz {k : ClassId} {ty : FieldType} {z z' : Int32} {vs : List Value} {d : Value} (q : z = z') (F : Arv Z h a k ty z vs d) : Arv Z h a k ty z' vs d := q ▸ F
/-- the same place of the walk, the state another (no cell written or made meanwhile) -/
def own_at2 (_ : Stand p l e R s m args below meth c T locs cells slots) (T' : State) (locs' : List Loc) (c' s' : Nat) : Prop := Stand p l e R s m args below meth c T' locs' c' s'
theorem own_wk (X : Stand p l e R s m args below meth c T locs cells slots) {c' s' : Nat} (hc : cells ≤ c') (hs : slots ≤ s') : Stand p l e R s m args below meth c T locs c' s' := { X with same := X.same.mono hc hs }
def own_at (_ : Stand p l e R s m args below meth c T locs cells slots) (T' : State) : Prop := Stand p l e R s m args below meth c T' locs cells slots
theorem own_ne_lo (q : a < h.size) (r : h.size ≤ b) : a ≠ b := Nat.ne_of_lt (Nat.lt_of_lt_of_le q r)
end OwnKit
theorem own_gcls {p : Program} {l : Launch} {e : Env} {R : Room} {s : State} {m : MethodId} {args : Array Value} {below : List Frame} {meth : Method} {c : Code} {T : State} {locs : List Loc} {cells slots : Nat} {Z : State} {h : Heap} {a : Addr} (X : Stand p l e R s m args below meth c T locs cells slots) (hx : p.tables.exec = Jvm.exec) (hZ : Z.Warmed39 s.vm) {a0 : Array Value} {own C : String} {index : Nat} (hown : s.vm.findClass own = some m.cls)
    (w1 : (Cond.methodLink own index ⟨"java/lang/Object", "getClass", "()Ljava/lang/Class;"⟩).before a0 Z = true) (w2 : (Cond.declares ⟨"java/lang/Object", "getClass", "()Ljava/lang/Class;"⟩).before a0 Z = true) (w3 : (Cond.noSuperclass "java/lang/Object").before a0 Z = true) (w4 : (Cond.selects C ⟨"java/lang/Object", "getClass", "()Ljava/lang/Class;"⟩ ⟨"java/lang/Object", "getClass", "()Ljava/lang/Class;"⟩).before a0 Z = true)
    (w5 : (Cond.instanceMethod ⟨"java/lang/Object", "getClass", "()Ljava/lang/Class;"⟩).before a0 Z = true) (w6 : (Cond.native ⟨"java/lang/Object", "getClass", "()Ljava/lang/Class;"⟩).before a0 Z = true) (eT : T.heap = h) (E : Exa Z h a C) {mr : Addr} (M : own_Mi Z C mr)
    {g : JFrame} (hg : g.method = m) (hsize : g.locals.size = c.maxLocals) {rest : List Value} (hs : g.stack = .ref a :: rest) (hd : decode c.code g.pc = .ok (.invokevirtual index, 3)) (hf : 1 ≤ R.frames) {W : Nat} (hW : 2 * g.monitorRoom + (rest.map fun v => v.category).sum ≤ W) (hl : W + (nativeFrameWords "java/lang/Object" "getClass" 1 + 11) ≤ R.locals) :
    ∃ T', Stand p l e R s m args below meth c T' locs cells slots ∧ T'.heap = h ∧ ∀ target, Steps p.tables e below (T'.setTop { g with pc := g.pc + 3, stack := .ref mr :: rest }) target → Steps p.tables e below (T.setTop g) target := by
  obtain ⟨cB, kB, i1, i2, i3⟩ := isOf hZ eT E
  obtain ⟨cc, kc, m1, m2, m3⟩ := M
  rw [hZ.alike.findClass] at i1
  cases i1.symm.trans m1
  obtain ⟨k', q, ek⟩ := hZ.alike.2.2 _ _ m2
  obtain ⟨vm', X', st⟩ := X.getClassOf hx hown (mvT hZ w1) (mvT hZ w2) (nf_top (args := #[]) (mvT hZ w3)) (mvT hZ w4) (mvT hZ w5) (mvT hZ w6) (by rw [hZ.alike.findClass]; exact m1) i3 q (by rw [ek]; exact m3) hg hsize hs hd hf (by omega)
  exact ⟨_, X', eT, st⟩
def own_EL : List (String × Nat) := [("com/example/interplay/interplay/history/Group", 53), ("com/example/interplay/interplay/history/Group", 62)]
theorem own_EW {a0 : Array Value} {Z : State} (hw : ∀ d ∈ tables_1, d.before a0 Z = true) : EW Z a0 own_EL := (EW.cons (own_w hw 119) (by decide) (EW.cons (own_w hw 209) (by decide) EW.nil))
theorem own_wS {a0 : Array Value} {Z : State} (hw : ∀ d ∈ tables_1, d.before a0 Z = true) : ∀ d ∈ Bundle.stringAtoms, d.before a0 Z = true := fun d hd => hw d ((by decide +kernel : ∀ d ∈ Bundle.stringAtoms, d ∈ tables_1) d hd)
theorem own_wa {a0 : Array Value} {Z : State} (hw : ∀ d ∈ tables_1, d.before a0 Z = true) : (Jvm.Cond.arrayClass .byte).before a0 Z = true := (own_w hw 114)
theorem own_wi {a0 : Array Value} {Z : State} (hw : ∀ d ∈ tables_1, d.before a0 Z = true) : (Jvm.Cond.instantiable "java/lang/String" 4).before a0 Z = true := (own_w hw 120)
theorem own_held {tb : Tables} {e : Env} {args : Array Value} {s : State} (hc : Calls_1 tb e args s) : ∀ p ∈ own_EL, Jvm.Lit.constHeld s p.1 p.2 := fun p hp => hc.2.1 p hp
section OwnKitW
variable {p : Program} {l : Launch} {e : Env} {R : Room} {s : State} {m : MethodId} {args : Array Value} {below : List Frame} {meth : Method} {c : Code} {T T' U Z : State} {locs : List Loc} {cells slots : Nat} {h h' h0 : Heap} {a b : Addr} {n0 : Nat} {vm0 : Vm} {EL : List (String × Nat)} {a0 : Array Value}
def own_PW (s Z : State) (EL : List (String × Nat)) (Q : Option Value → Heap → List Loc → Prop) (rc rs : Nat) : State → Outcome → Prop := fun U o => ∃ v L, o = .returned v ∧ Q v U.heap L ∧ CHr Z EL s.vm s.heap U.vm U.heap ∧ ReturnedEndW s o U L rc rs
def own_K (kn : Bool) : Program → Env → List Frame → State → Array Value → Prop := fun _ _ bl s _ => kn = true → s.vm.MethodsKnown ∧ s.vm.FramesKnown bl
def own_CW (l : Launch) (Z : State) (kn : Bool) (y : MethodName) (bytes : ByteArray) (maxL : Nat) (ret : Option FieldType) (ws : List Jvm.Cond) (rm : Room) (as : Array Value) (h0 : Heap) (sx : List Addr) (Q : Option Value → Heap → List Loc → Prop) : Prop :=
  MetFree l y (head1 (Jvm.Cond.code y bytes maxL ret :: ws) rm) (fun a U => a = as ∧ Z.Warmed39 U.vm ∧ U.heap = h0 ∧ CHv Z own_EL U.vm h0 ∧ ∀ x ∈ sx, Safe Z own_EL U.vm h0 x) (own_K kn) (fun _ U o U' => ∃ v L, o = .returned v ∧ Q v U'.heap L ∧ CHr Z own_EL U.vm U.heap U'.vm U'.heap ∧ ReturnedEndW U o U' L rm.cells rm.slots)
theorem own_entryW {kn : Bool} {y : MethodName} {bytes : ByteArray} {maxL : Nat} {ret : Option FieldType} {ws : List Jvm.Cond} {rm : Room} {as : Array Value} {sx : List Addr} {Q : Option Value → Heap → List Loc → Prop} (hpn : plainFor y = true)
    (body : ∀ (p : Program) (e : Env) (s : State) (m : MethodId) (below : List Frame) (meth : Method) (c : Code) (s₁ : State), p.tables.exec = Jvm.exec → c.code = bytes → c.maxLocals = maxL → s.vm.findClass y.cls = some m.cls → meth.name = y.name → meth.sig.returnType = ret → meth.locks = false → Z.Warmed39 s.vm → s.heap = h0 → CHv Z own_EL s.vm h0 → (∀ x ∈ sx, Safe Z own_EL s.vm h0 x) → (kn = true → s.vm.MethodsKnown ∧ s.vm.FramesKnown below) →
      Stand p l e rm (s.setVm s.vm) m as below meth c s₁ [] 0 0 → s₁.heap = h0 → own_Fin p.tables e below (own_PW s Z own_EL Q rm.cells rm.slots) s₁ (entryFrame m as maxL)) : own_CW l Z kn y bytes maxL ret ws rm as h0 sx Q := by
  refine MetFree.of_bodySF hpn hisR ?_
  intro p e s m args below meth c s₁ Bd hml0 hP hK
  obtain ⟨rfl, hZ, hh, hCH, hSf⟩ := hP
  exact body p e s m below meth c s₁ Bd.exec Bd.bytes hml0 (findClass_of_methodNamed Bd.named) (name_of_methodNamed Bd.named Bd.method).1 Bd.returns Bd.notSynchronized hZ hh hCH hSf hK (Stand.of_body Bd) (by rw [← hh, Bd.state]; rfl)
theorem own_leaveW (X : Stand p l e R (s.setVm vm0) m args below meth c T locs cells slots) {k0 : Nat} (hS : s.Since vm0 k0) (hk : k0 ≤ h.size) (hZ : Z.Warmed39 vm0) (hEL : EW Z a0 EL) (eT : T.heap = h) (hCH : CHr Z EL s.vm h0 vm0 h) (hh : s.heap = h0) (hlk : meth.locks = false) {Q : Option Value → Heap → List Loc → Prop} {v : Option Value} (hv : meth.sig.returnType = none → v = none) {rc rs : Nat} (hc : cells ≤ rc) (hs : slots ≤ rs) (hQ : Q v T.heap locs) {f : JFrame}
    (st : ∀ fs, (∀ (f : JFrame) (acts : List Action), f.method = m → f.locked = none → f.entered = [] → (doReturn e (T.setTop f) acts v).1 = T.setFrames fs) → Steps p.tables e below (T.setTop f) (T.setFrames fs)) : own_Fin p.tables e below (own_PW s Z EL Q rc rs) T f := by
  subst eT
  obtain ⟨fs, hr, hrun, hended, hv', hW, hI, hsame⟩ := X.leaveW hS hk hv hlk
  have q := CHr.trans hCH (CHv.at X hZ hEL hCH.1)
  exact ⟨_, _, st fs hr, hrun, hended, _, _, rfl, hQ, by rw [hh]; exact q, hv', hW, hI, hsame.mono hc hs⟩
theorem own_reb {vm1 : Vm} (X : Stand p l e R ((s.setVm vm0).setVm vm1) m args below meth c T locs cells slots) : Stand p l e R (s.setVm vm1) m args below meth c T locs cells slots := X
theorem own_since (s : State) (n : Nat) : s.Since s.vm n := (State.WarmedH.refl s).since n
theorem own_after (hZ : Z.Warmed39 vm0) {k0 : Nat} (hS : s.Since vm0 k0) (eT : T.heap = h) (hk : k0 ≤ h.size) (h2 : (s.setVm vm0).Since U.vm U.heap.size) (g : T.heap.size ≤ U.heap.size) {own : String} {k : ClassId} (hown : vm0.findClass own = some k) : Z.Warmed39 (s.setVm U.vm).vm ∧ s.Since U.vm U.heap.size ∧ (s.setVm U.vm).vm.findClass own = some k := by
  subst eT
  refine ⟨State.Warmed39.trans (t := s.setVm vm0) hZ h2.1, foldS hS hk h2 g, ?_⟩
  show U.vm.findClass own = some k
  rw [h2.1.alike.findClass]; exact hown
theorem own_backSH {kn : Bool} {y : MethodName} {bytes : ByteArray} {maxL : Nat} {ret : Option FieldType} {rm : Room} {len W : Nat} {as' : Array Value} {Q : Option Value → Heap → List Loc → Prop} {sx : List Addr}
    (hM : MetFree l y (head1 [Cond.code y bytes maxL ret] rm) (fun a U => a = as' ∧ Z.Warmed39 U.vm ∧ U.heap = h ∧ CHv Z EL U.vm h ∧ ∀ x ∈ sx, Safe Z EL U.vm h x) (own_K kn) (fun _ U o U' => ∃ v L, o = .returned v ∧ Q v U'.heap L ∧ CHr Z EL U.vm U.heap U'.vm U'.heap ∧ ReturnedEndW U o U' L rm.cells rm.slots))
    (hZ : Z.Warmed39 vm0) (wc : (Cond.code y bytes maxL ret).before a0 Z = true) (wz : (Cond.initialized y.cls).before a0 Z = true) (hf : rm.frames + 1 ≤ R.frames) (hl : W + (maxL + 11) + rm.locals ≤ R.locals) (hEL : EW Z a0 EL) (H : CHv Z EL vm0 h) (hsx : ∀ x ∈ sx, x < h.size ∧ Safe Z EL vm0 h x) (hkn : kn = true → vm0.MethodsKnown ∧ vm0.FramesKnown below) :
    BackS l R p e below (s.setVm vm0) args y len W (fun A a => a = as' ∧ A.U.heap = h ∧ A.cells + rm.cells ≤ R.cells ∧ A.slots + rm.slots ≤ R.slots)
      (fun A _ v B => ∃ L, Q v B.U.heap L ∧ B.locs = A.locs ++ L ∧ B.cells = A.cells + rm.cells ∧ B.slots = A.slots + rm.slots ∧ CHr Z EL vm0 h B.U.vm B.U.heap) :=
  BackS.of_freeWG (bytes := bytes) (maxL := maxL) (ret := ret) (E := fun _ u o t L k n => (k = rm.cells ∧ n = rm.slots) ∧ (∃ v, o = .returned v ∧ Q v t.heap L) ∧ CHr Z EL u.vm u.heap t.vm t.heap) hM hf hl
    (fun m meth c A a Y hp => by
      have hU : Z.Warmed39 A.U.vm := wtrans (s := s.setVm vm0) hZ Y.warmed
      refine ⟨?_, mv hU wc, mv hU wz, hp.2.2.1, hp.2.2.2⟩
      show (Cond.and _ .tt).before a A.U = true
      rw [Cond.before_and, mv hU wc]; rfl)
    (fun m meth c A a g mk Y hp => ⟨hp.1, wtrans (s := s.setVm vm0) hZ Y.warmed, hp.2.1, (CHv.at Y hZ hEL H).1, fun x hx => CHr.safe (CHv.at Y hZ hEL H) (hsx x hx).1 (hsx x hx).2⟩) (fun m meth c A a g mk Y _ hg hk => Jvm.Free.known_frames Y hg (hkn hk).1 (hkn hk).2)
    (fun _ _ _ _ ⟨v, L, q1, q2, q3, q4⟩ => ⟨L, _, _, q4, ⟨rfl, rfl⟩, ⟨v, q1, q2⟩, q3⟩)
    (fun m meth c A a g mk v t L k n Y hp _ _ ⟨⟨q1, q2⟩, ⟨v', q3, q4⟩, q5⟩ => by
      cases q3; subst q1 q2
      refine ⟨L, q4, rfl, rfl, rfl, CHr.trans (CHv.at Y hZ hEL H) ?_⟩
      rw [← hp.2.1]; exact q5)
theorem own_safe_new {vm : Vm} (H : CHv Z EL vm h) (E : Ext h h') (q : h.size ≤ a) : Safe Z EL vm h' a := Safe.ext E H (Safe.new q)
end OwnKitW
theorem own_of255 (x : Int32) : ∃ k : Fin 256, (x &&& 255) = Int32.ofNat k.val := by
  refine ⟨⟨(x &&& 255).toBitVec.toNat, ?_⟩, ?_⟩
  · simp only [Int32.toBitVec_and, BitVec.toNat_and]
    exact Nat.lt_succ_of_le Nat.and_le_right
  · apply Int32.toBitVec_inj.mp
    show _ = BitVec.ofNat 32 _
    rw [BitVec.ofNat_toNat]; simp
theorem own_m255 (x : Int32) : ¬ (x &&& (255 : Int32)) < 0 ∧ ¬ (255 : Int32) < (x &&& (255 : Int32)) := by
  have t : ∀ k : Fin 256, ¬ (Int32.ofNat k.val) < 0 ∧ ¬ (255 : Int32) < (Int32.ofNat k.val) := by decide +kernel
  obtain ⟨k, hk⟩ := own_of255 x
  rw [hk]; exact t k
theorem own_nc255 (x : Int32) : nar .char (x &&& (255 : Int32)) = (x &&& (255 : Int32)) := i2c_mask x
theorem own_fin {c : Int32} (h : ¬ c < 0 ∧ ¬ (255 : Int32) < c) : ∃ k : Fin 256, c = Int32.ofNat k.val := by
  have h1 := h.1; have h2 := h.2
  rw [Int32.lt_iff_toInt_lt] at h1 h2
  have e0 : (0 : Int32).toInt = 0 := rfl
  have e1 : (255 : Int32).toInt = 255 := rfl
  obtain ⟨k, hk⟩ : ∃ k : Nat, c.toInt = k := ⟨c.toInt.toNat, by omega⟩
  exact ⟨⟨k, by omega⟩, Int32.toInt_inj.mp (by rw [hk, Int32.toInt_ofNat_small (by omega)])⟩
theorem own_ncl {c : Int32} (h : ¬ c < 0 ∧ ¬ (255 : Int32) < c) : nar .char c = c := by
  have t : ∀ k : Fin 256, nar .char (Int32.ofNat k.val) = Int32.ofNat k.val := by decide +kernel
  obtain ⟨k, rfl⟩ := own_fin h
  exact t k
theorem own_nc16 (x : Int32) : nar .char (x.toUInt32.toUInt16.toUInt32.toInt32) = x.toUInt32.toUInt16.toUInt32.toInt32 := by
  show (x.toUInt32.toUInt16.toUInt32.toInt32).toUInt32.toUInt16.toUInt32.toInt32 = _
  simp only [UInt32.toUInt32_toInt32, UInt16.toUInt16_toUInt32]
theorem own_b8 (x : Int32) : nar .byte (x.toInt8.toInt32) = x.toInt8.toInt32 := by
  show (x.toInt8.toInt32).toInt8.toInt32 = _
  rw [Int8.toInt8_toInt32]
def own_dig : List Value := (List.range 100).map fun i => Value.int (Int32.ofNat (48 + i % 10))
theorem own_ten {n : Int32} (h1 : ¬ n < (0 : Int32)) (h4 : ¬ (-n) < (-9 : Int32)) : ∃ k : Fin 10, n = Int32.ofNat k.val := by
  rw [Int32.lt_iff_toInt_lt] at h1 h4
  have e0 : (0 : Int32).toInt = 0 := rfl
  have e9 : (-9 : Int32).toInt = -9 := by decide
  by_cases q : n.toInt = -2147483648
  · omega
  · have en : (-n).toInt = -n.toInt := by
      have a1 := n.toInt_lt; have a2 := n.le_toInt
      rw [Int32.toInt_neg]
      rw [Int.bmod_eq_of_le] <;> omega
    obtain ⟨k, hk⟩ : ∃ k : Nat, n.toInt = k := ⟨n.toInt.toNat, by omega⟩
    exact ⟨⟨k, by omega⟩, Int32.toInt_inj.mp (by rw [hk, Int32.toInt_ofNat_small (by omega)])⟩
theorem own_dgi {n : Int32} (h1 : ¬ n < (0 : Int32)) (h4 : ¬ (-n) < (-9 : Int32)) : ¬ (-(-n)) < 0 ∧ (-(-n)) < (100 : Int32) := by
  have t : ∀ k : Fin 10, ¬ (-(-Int32.ofNat k.val)) < 0 ∧ (-(-Int32.ofNat k.val)) < (100 : Int32) := by decide +kernel
  obtain ⟨k, rfl⟩ := own_ten h1 h4
  exact t k
theorem own_dgv {n : Int32} (h1 : ¬ n < (0 : Int32)) (h4 : ¬ (-n) < (-9 : Int32)) : own_dig.getD (-(-n)).toNatClampNeg (.int (0 : Int32)) = .int ((48 : Int32) + n) := by
  have t : ∀ k : Fin 10, (-(-Int32.ofNat k.val)).toNatClampNeg = k.val ∧ Int32.ofNat (48 + k.val % 10) = (48 : Int32) + Int32.ofNat k.val := by decide +kernel
  obtain ⟨k, rfl⟩ := own_ten h1 h4
  rw [(t k).1, ← (t k).2]
  have hk : k.val < 100 := by omega
  simp [own_dig, List.getD_eq_getElem?_getD, hk]
theorem own_48 {n : Int32} (h1 : ¬ n < (0 : Int32)) (h4 : ¬ (-n) < (-9 : Int32)) : ¬ ((48 : Int32) + n) < 0 ∧ ¬ (255 : Int32) < ((48 : Int32) + n) := by
  have t : ∀ k : Fin 10, ¬ ((48 : Int32) + Int32.ofNat k.val) < 0 ∧ ¬ (255 : Int32) < ((48 : Int32) + Int32.ofNat k.val) := by decide +kernel
  obtain ⟨k, rfl⟩ := own_ten h1 h4
  exact t k
theorem own_dn (n : Int32) (h : ∃ k : Fin 10, n = Int32.ofNat k.val) : ¬ (n < (0 : Int32)) ∧ (-10 : Int32) < (-n) ∧ (-100 : Int32) < (-n) ∧ ¬ ((-n) < (-9 : Int32)) := by
  have t : ∀ k : Fin 10, ¬ (Int32.ofNat k.val < (0 : Int32)) ∧ (-10 : Int32) < (-Int32.ofNat k.val) ∧ (-100 : Int32) < (-Int32.ofNat k.val) ∧ ¬ ((-Int32.ofNat k.val) < (-9 : Int32)) := by decide +kernel
  obtain ⟨k, rfl⟩ := h
  exact t k
theorem own_rng (x : Int32) : (-1 : Int32) < ((x &&& (2147483647 : Int32)) % (10 : Int32)) ∧ ¬ (9 : Int32) < ((x &&& (2147483647 : Int32)) % (10 : Int32)) := by
  have hp : (0 : Int) ≤ (x &&& (2147483647 : Int32)).toInt := by
    have e : (x &&& (2147483647 : Int32)).toInt = (x.toBitVec &&& 2147483647#32).toInt := rfl
    rw [e, BitVec.toInt_eq_msb_cond]
    have q : (x.toBitVec &&& 2147483647#32).msb = false := by rw [BitVec.msb_and, show (2147483647#32).msb = false from by decide, Bool.and_false]
    rw [q]; simp
  have hr : ((x &&& (2147483647 : Int32)) % (10 : Int32)).toInt = (x &&& (2147483647 : Int32)).toInt % 10 := by
    rw [Int32.toInt_mod]
    have e : (10 : Int32).toInt = 10 := rfl
    rw [e, Int.tmod_eq_emod_of_nonneg hp]
  rw [Int32.lt_iff_toInt_lt, Int32.lt_iff_toInt_lt, hr]
  have e1 : (-1 : Int32).toInt = -1 := by decide
  have e9 : (9 : Int32).toInt = 9 := rfl
  rw [e1, e9]; omega
theorem own_eqk {n a b : Int32} (h1 : a < n) (h2 : ¬ b < n) (hab : b.toInt = a.toInt + 1) : n = b := by
  rw [Int32.lt_iff_toInt_lt] at h1 h2
  exact Int32.toInt_inj.mp (by omega)
theorem own_nlt {a b m : Int32} (h : a < b) (q : ¬ a < m) : ¬ b < m := by
  rw [Int32.lt_iff_toInt_lt] at *; omega
theorem own_zarr {s : State} {args : Array Value} {t : Term} {a : Addr} (hfit : Fit s) (ev : t.eval args s none [] s = some (.ref a)) (ha : (Jvm.Cond.arrayOf t (.object "java/lang/Object")).before args s = true) (hl : (Jvm.Cond.eq (.length t) (.int (0 : Int32))).before args s = true) : ∃ k, Arv s s.heap a k (.object "java/lang/Object") (0 : Int32) [] .null := by
  obtain ⟨c, A⟩ := Arr.start ev (Cond.before_iff.mp ha)
  have q := Cond.eq_int hl rfl
  obtain ⟨a', D, ev', hat, hlen⟩ := Term.length_spec q
  cases ev.symm.trans ev'
  obtain ⟨hcD, -⟩ := State.arrayAt?_spec hat
  cases A.1.symm.trans hcD
  have h31 := Jvm.Free.SBG.length_lt ev hat q
  have hsz : c.slots.size = 0 := by
    have e : (Term.length t).eval args s none [] s = some (.int (Int32.ofNat c.slots.size)) := by simp [Term.eval, ev, hat, h31]
    have := Option.some.inj (e.symm.trans q)
    have h2 : Int32.ofNat c.slots.size = Int32.ofNat 0 := by simpa using this
    have := congrArg Int32.toInt h2
    rw [Int32.toInt_ofNat_small h31, Int32.toInt_ofNat_small (by omega)] at this; omega
  exact ⟨c.cls, Arv.start hfit A (by omega) (by rw [hsz]; rfl) (by decide) rfl trivial⟩
theorem own_ones {s : State} {args : Array Value} (hfit : Fit s) (hx : (Jvm.Cond.exactly (.static "java/lang/Integer" "DigitOnes" "[B") "[B").before args s = true) (hl : (Jvm.Cond.eq (.length (.static "java/lang/Integer" "DigitOnes" "[B")) (.int (100 : Int32))).before args s = true) (ho : Jvm.Free.SBG.onesW.before args s = true) (harr : (Jvm.Cond.arrayClass .byte).before args s = true) : ∃ d k, (Term.static "java/lang/Integer" "DigitOnes" "[B").eval args s none [] s = some (.ref d) ∧ Arv s s.heap d k .byte (100 : Int32) own_dig (.int (0 : Int32)) := by
  obtain ⟨d, cB, D, kB, hev, hfcB, hcellD, hkB, hstatD, hclsD, -⟩ := Cond.exactly_spec hx
  have hevAll : ∀ idx, (Term.static "java/lang/Integer" "DigitOnes" "[B").eval args s none idx s = some (.ref d) := fun idx => by
    have : (Term.static "java/lang/Integer" "DigitOnes" "[B").eval args s none idx s = (Term.static "java/lang/Integer" "DigitOnes" "[B").eval args s none [] s := by simp only [Term.eval]
    rw [this]; exact hev
  have q := Cond.eq_int hl rfl
  obtain ⟨d', D', hev', hat, hlen⟩ := Term.length_spec q
  cases hev.symm.trans hev'
  obtain ⟨hcellD', hknD, -, -⟩ := State.arrayAt?_spec hat
  cases hcellD.symm.trans hcellD'
  have h31 := Jvm.Free.SBG.length_lt hev hat q
  have hsz : D.slots.size = 100 := by
    have h2 := congrArg Int32.toInt (Value.int.inj hlen)
    rw [show D.slots.size.toInt32 = Int32.ofNat D.slots.size from rfl, Int32.toInt_ofNat_small h31] at h2
    have e : (100 : Int32).toInt = 100 := rfl
    omega
  obtain ⟨cB', kB', comp, hnameB, hkB', hkindB⟩ := Cond.arrayClass_spec harr
  have eBA : ("[" ++ FieldType.toString .byte) = "[B" := by decide
  rw [eBA] at hnameB
  cases hfcB.symm.trans hnameB
  cases hkB.symm.trans hkB'
  have A : Arr s s.heap d D .byte := ⟨hcellD, ⟨(fun q h => by rw [h] at hstatD; cases hstatD), kB, (by rw [hclsD]; exact hkB), comp, hkindB⟩, hknD⟩
  have hint : ∀ r, r < 100 → D.slots[r]? = some (.int (Jvm.Free.SBG.iAt D r)) := fun r hr => by
    have hr' : r < D.slots.size := by omega
    obtain ⟨v, h1, h2⟩ : ∃ v, D.slots[r]? = some v ∧ fits .byte v = true := by
      have e1 : (Nat.toInt32 r).toNatClampNeg = r := by simp only [Int32.toNatClampNeg, len_toInt (show r < 2 ^ 31 by omega)]; rfl
      obtain ⟨v, h1, h2⟩ := elem_fit (j := Nat.toInt32 r) hfit A (idx_in hr' (by omega))
      rw [e1] at h1
      exact ⟨v, h1, h2⟩
    obtain ⟨x, rfl⟩ := fit_I h2 (by simp)
    rw [h1]; simp [Jvm.Free.SBG.iAt, Array.getD_eq_getD_getElem?, h1]
  have hO := Jvm.Free.SBG.held_of_word (F := fun r => 48 + r % 10) hevAll hat hsz hint (fun r hr => by rw [← Jvm.Free.SBG.ones_num r hr]; rfl) ho
  refine ⟨d, D.cls, hev, D, A, rfl, by rw [hsz]; rfl, by decide, fun i hi => ?_, fun i hi => ?_⟩
  · rw [hsz] at hi
    rw [hint i hi, hO i hi]
    simp [own_dig, List.getD_eq_getElem?_getD, hi]
  · rw [hsz] at hi
    simp only [own_dig, List.getD_eq_getElem?_getD, List.getElem?_map, List.getElem?_range hi, Option.map_some, Option.getD_some]
    have t : ∀ k : Fin 100, fits .byte (.int (Int32.ofNat (48 + k.val % 10))) = true := by decide +kernel
    exact t ⟨i, hi⟩
theorem own_fev {s : State} {args : Array Value} {t : Term} {C n d : String} {a : Addr} {v : Value} (ev : t.eval args s none [] s = some (.ref a)) (e : (Term.field t C n d).eval args s none [] s = some v) : s.fieldOf? a C n d = some v := by
  simpa [Term.eval, ev] using e
theorem own_hws {a0 : Array Value} {Z : State} (hw : ∀ d ∈ tables_1, d.before a0 Z = true) : ∀ d ∈ StrChars.Road.words, d.before a0 Z = true := fun d hd => hw d ((by decide +kernel : ∀ d ∈ StrChars.Road.words, d ∈ tables_1) d hd)
theorem own_heq {a0 : Array Value} {Z : State} (hw : ∀ d ∈ tables_1, d.before a0 Z = true) : ∀ d ∈ StrChars.Road.wordsEq, d.before a0 Z = true := fun d hd => hw d ((by decide +kernel : ∀ d ∈ StrChars.Road.wordsEq, d ∈ tables_1) d hd)
theorem own_hln {a0 : Array Value} {Z : State} (hw : ∀ d ∈ tables_1, d.before a0 Z = true) : ∀ d ∈ StrChars.Road.wordsLen, d.before a0 Z = true := fun d hd => hw d ((by decide +kernel : ∀ d ∈ StrChars.Road.wordsLen, d ∈ tables_1) d hd)
theorem own_up (cs : List Int32) (h : ∀ c ∈ cs, ¬ c < 0 ∧ ¬ (255 : Int32) < c) : ∀ c ∈ cs, ¬ c < 0 ∧ ¬ (65535 : Int32) < c := fun c hc => ⟨(h c hc).1, fun q => (h c hc).2 (by
  rw [Int32.lt_iff_toInt_lt] at q ⊢
  have e1 : (65535 : Int32).toInt = 65535 := rfl
  have e2 : (255 : Int32).toInt = 255 := rfl
  omega)⟩
section OwnCopy
variable {p : Program} {l : Launch} {e : Env} {R : Room} {s : State} {Z : State} {h : Heap} {a0 : Array Value}
abbrev own_rn (k : Nat) (g : Addr) (m : Nat) : List Value := List.replicate k (.ref g) ++ List.replicate m .null
/-- the ArrayList's bundle, as the library's laws ask it, out of this text's facts -/
theorem own_al {U : State} {al arr g1 : Addr} {ka : ClassId} {n m kA : Nat} {mc zc : Int32} {C : String} (hZ : Z.Warmed39 U.vm) (eU : U.heap = h) (wi : (Jvm.Cond.instantiable "java/util/ArrayList" kA).before a0 Z = true) (wE : (Jvm.Cond.lays "java/util/ArrayList" "java/util/ArrayList" "elementData" "[Ljava/lang/Object;").before a0 Z = true) (wS : (Jvm.Cond.lays "java/util/ArrayList" "java/util/ArrayList" "size" "I").before a0 Z = true) (wM : (Jvm.Cond.lays "java/util/ArrayList" "java/util/AbstractList" "modCount" "I").before a0 Z = true) (via : Via Z "java/util/ArrayList" "java/util/AbstractList" "modCount" "I")
    (E1 : Exa Z h al "java/util/ArrayList") (U1 : Unt h al) (FE : Fld Z h al "java/util/ArrayList" "elementData" "[Ljava/lang/Object;" (.ref arr)) (FS : Fld Z h al "java/util/ArrayList" "size" "I" (.int (Int32.ofNat n))) (FM : Fld Z h al "java/util/AbstractList" "modCount" "I" (.int mc))
    (VA : Arv Z h arr ka (.object "java/lang/Object") zc (own_rn n g1 m) .null) (EA : Exa Z h arr "[Ljava/lang/Object;") (OA : Ovr Z ka "java/lang/Object") (ne : al ≠ arr) (hz : n ≤ zc.toNatClampNeg) :
    ∃ (x : Jvm.Free.ALB.Fix) (CC EC : Cell), x.a = al ∧ Jvm.Free.ALB.Al x CC arr EC n mc U ∧ EC.slots.size = zc.toNatClampNeg ∧ (∀ i, i < EC.slots.size → EC.slots[i]? = some ((own_rn n g1 m).getD i .null)) ∧ U.vm.findClass "java/lang/Object" = some x.comp ∧ x.cOA = ka ∧ Z.vm.findClass "java/util/ArrayList" = some x.cAL := by
  subst eU
  obtain ⟨ce, kc, h1, h2, h3, -, h5⟩ := E1
  obtain ⟨_, u1, u2, u3⟩ := U1
  cases h1.symm.trans u1
  obtain ⟨_, k2, i1, i2, i3, -⟩ := Jvm.Cond.instantiable_spec wi
  cases h2.symm.trans i1
  cases h3.symm.trans i2
  obtain ⟨kX, x1, x2⟩ := hZ.alike.2.2 _ _ h3
  have hR : U.vm.findClass "java/util/ArrayList" = some ce.cls := by rw [hZ.alike.findClass]; exact h2
  have ord : kX.kind = .ordinary := by rw [x2]; exact i3
  have hsz : ce.slots.size = kX.instanceTypes.size := by rw [x2]; exact h5 i3
  have tk : ∀ {f : Field} {v : Value}, kX.instanceTypes[f.slot]? = some f.type → fits f.type v = true → Jvm.Takes U ce f v := fun {f v} y1 y2 => by
    obtain ⟨y3, y4⟩ := Takes.of_laid (v := v) x1 ord y1 y2
    exact ⟨by rw [hsz]; simpa using y3, by rw [u2]; exact y4⟩
  obtain ⟨_, cE, kE, iE, fE, e1, e2, e3, -, -, -, e7⟩ := FE
  cases h1.symm.trans e1
  obtain ⟨_, cS, kS, iS, fS, s1, s2, s3, -, -, -, s7⟩ := FS
  cases h1.symm.trans s1
  obtain ⟨_, cM, kM, iM, fM, m1, m2, m3, -, -, -, m7⟩ := FM
  cases h1.symm.trans m1
  obtain ⟨kE', e8, -⟩ := State.fieldFound?_setVm (s := Z) hZ.alike e2
  obtain ⟨kS', s8, -⟩ := State.fieldFound?_setVm (s := Z) hZ.alike s2
  obtain ⟨kM', m8, -⟩ := State.fieldFound?_setVm (s := Z) hZ.alike m2
  obtain ⟨kM2, m9, -⟩ := State.fieldFound?_setVm (s := Z) hZ.alike (via _ m2)
  have we : (Jvm.Cond.lays "java/util/ArrayList" "java/util/ArrayList" "elementData" "[Ljava/lang/Object;").before a0 U = true := mvT hZ wE
  have wz : (Jvm.Cond.lays "java/util/ArrayList" "java/util/ArrayList" "size" "I").before a0 U = true := mvT hZ wS
  have wm : (Jvm.Cond.lays "java/util/ArrayList" "java/util/AbstractList" "modCount" "I").before a0 U = true := mvT hZ wM
  have tE := (Jvm.Cond.laysAt hR x1 e8 we).1
  have tS := (Jvm.Cond.laysAt hR x1 s8 wz).1
  have tM := (Jvm.Cond.laysAt hR x1 m8 wm).1
  obtain ⟨nE, yE⟩ := State.fieldFound?_type e8 (t := .array (.object "java/lang/Object")) (by decide +kernel)
  obtain ⟨nS, yS⟩ := State.fieldFound?_type s8 (t := .int) (by decide +kernel)
  obtain ⟨nM, yM⟩ := State.fieldFound?_type m8 (t := .int) (by decide +kernel)
  obtain ⟨_, _, _, _, _, _, _, _, q3, _, q5, _⟩ := Jvm.Cond.lays_spec we
  cases e8.symm.trans q3
  obtain ⟨_, _, _, _, _, _, _, _, r3, _, r5, _⟩ := Jvm.Cond.lays_spec wz
  cases s8.symm.trans r3
  obtain ⟨_, _, _, _, _, _, _, _, t3, _, t5, _⟩ := Jvm.Cond.lays_spec wm
  cases m8.symm.trans t3
  obtain ⟨ca, A, a1, a2, a3, a4, a5⟩ := VA
  obtain ⟨_, ka', b1, b2, b3, b4, -⟩ := EA
  cases A.1.symm.trans b1
  obtain ⟨ko, comp, o1, o2, o3⟩ := OA
  obtain ⟨ko', o4, o5⟩ := hZ.alike.2.2 _ _ o1
  obtain ⟨kcm, o6, -⟩ := Vm.findClass_spec o3
  obtain ⟨kcm', o7, -⟩ := hZ.alike.2.2 _ _ o6
  have hlt : ∀ {f : Field} {v : Value}, ce.slots[f.slot]? = some v → f.slot < ce.slots.size := fun q => (Array.getElem?_eq_some_iff.mp q).1
  refine ⟨{ a := al, fE := fE, fS := fS, fM := fM, cAL := ce.cls, cOA := ka, comp := comp }, ce, ca, rfl,
    { hC := h1, kn := by rw [u2]; simp, ob := fun q => by rw [u2]; simp, cl := rfl, fc := hR, kAL := ⟨kX, x1, ord⟩, nC := ⟨kX, x1, hsz⟩, ffE := ⟨_, _, _, e8⟩, ffS := ⟨_, _, _, s8⟩, ffM := ⟨_, _, _, m9⟩, stE := e3, stS := s3, stM := m3, nfE := q5, nfS := r5, nfM := t5, tyE := yE, tyS := yS, tyM := yM, ltE := hlt e7, ltS := hlt s7, ltM := hlt m7,
      neES := Jvm.Cond.lays_apart we wz e8 s8 (by rw [nE, nS]; decide), neEM := Jvm.Cond.lays_apart we wm e8 m8 (by rw [nE, nM]; decide), neSM := Jvm.Cond.lays_apart wz wm s8 m8 (by rw [nS, nM]; decide),
      fitE := fun r => (tk tE (by rw [yE]; rfl)).2, fitS := fun w => (tk tS (by rw [yS]; rfl)).2, fitM := fun w => (tk tM (by rw [yM]; rfl)).2, slE := e7, slS := s7, slM := m7, hE := A.1, knE := A.2.2, obE := A.2.1.1, clE := a1, fcO := by rw [hZ.alike.findClass]; rw [← a1]; exact b2,
      kOA := ⟨ko', kcm', o4, by rw [o5]; exact o2, o7⟩, le := by rw [a2]; exact hz, sm := by rw [a2]; simp only [Int32.toNatClampNeg]; have := zc.toInt_lt; omega, ap := ne }, a2, a4, by rw [hZ.alike.findClass]; exact o3, rfl, h2⟩
end OwnCopy
section OwnCopy2
variable {l : Launch} {Z : State} {a0 : Array Value}
def own_lv : Jvm.Cond → List Jvm.Cond
  | .and a b => own_lv a ++ own_lv b
  | .tt => []
  | d => [d]
theorem own_lv_join {args : Array Value} {s : State} : ∀ (c : Jvm.Cond), (∀ d ∈ own_lv c, d.before args s = true) → c.before args s = true := by
  intro c
  induction c with
  | and a b ha hb => intro q; rw [Jvm.Cond.before_and, ha fun d hd => q d (List.mem_append_left _ hd), hb fun d hd => q d (List.mem_append_right _ hd)]; rfl
  | tt => intro _; rfl
  | _ => intro q; exact q _ (List.mem_singleton.mpr rfl)
/-- a cell of the class C (its slots aren't counted) -/
def own_Is (Z : State) (h : Heap) (a : Addr) (C : String) : Prop := ∃ (cell : Cell) (k : Class), h[a]? = some cell ∧ Z.vm.findClass C = some cell.cls ∧ Z.vm.classes[cell.cls]? = some k ∧ cell.vm.isStatics = false
def own_Qcpl (Z : State) (n : Nat) (g1 em : Addr) (h0 : Heap) (v : Option Value) (h : Heap) (L : List Loc) : Prop :=
  L = [] ∧ ∃ r, v = some (.ref r) ∧ h0.size ≤ r ∧ Keep h0 h [] ∧
    ((n = 1 ∧ own_Is Z h r "java/util/ImmutableCollections$List12" ∧ Fld Z h r "java/util/ImmutableCollections$List12" "e1" "Ljava/lang/Object;" (.ref em)) ∨
     (n = 2 ∧ own_Is Z h r "java/util/ImmutableCollections$List12" ∧ Fld Z h r "java/util/ImmutableCollections$List12" "e1" "Ljava/lang/Object;" (.ref g1)) ∨
     (3 ≤ n ∧ ∃ (b : Addr) (k : ClassId) (vs : List Value), h0.size ≤ b ∧ own_Is Z h r "java/util/ImmutableCollections$ListN" ∧ Fld Z h r "java/util/ImmutableCollections$ListN" "elements" "[Ljava/lang/Object;" (.ref b) ∧ Arv Z h b k (.object "java/lang/Object") (Int32.ofNat n) vs .null))
abbrev own_Rcpl : Room := { frames := 8, locals := 130, cells := 3, slots := 20 }
def own_ok : Jvm.Cond → Bool
  | .methodLinkNest .. => true
  | .fieldLinkNest .. => true
  | .arrayOver (.object _) => true
  | d => d.onTables && d.keepsFace
theorem own_tabs {s : State} {args : Array Value} (hw : ∀ d ∈ tables_1, d.before a0 Z = true) (hZ : Z.Warmed39 s.vm) : Jvm.Free.LOB.CopyOf.tabAll.before args s = true := by
  refine own_lv_join _ fun d hd => ?_
  have q := hw d ((by decide +kernel : ∀ d ∈ own_lv Jvm.Free.LOB.CopyOf.tabAll, d ∈ tables_1) d hd)
  have ok := (by decide +kernel : ∀ d ∈ own_lv Jvm.Free.LOB.CopyOf.tabAll, own_ok d = true) d hd
  clear hd
  cases d with
  | methodLinkNest a b c d => exact Jvm.Cond.methodLinkNest_wide hZ q
  | fieldLinkNest a b c d e f => exact mvN hZ q
  | arrayOver ty =>
    cases ty with
    | object n => exact Jvm.Cond.arrayOver_alike hZ.alike q
    | _ => exact mv hZ q ok
  | _ => exact mv hZ q ok
theorem own_sis {s : State} {C nm d : String} {v : Value} (hZ : Z.Warmed39 s.vm) (F : Sta Z s.heap C nm d v) : Jvm.Lib.Cold.StaticIs s C nm d v := by
  obtain ⟨cf, i, k, f, st, cell, h1, h2, h3, h4, h5, h6, h7⟩ := F
  obtain ⟨k', q, ek⟩ := State.fieldFound?_setVm (s := Z) hZ.alike h1
  exact ⟨cf, i, k', f, st, cell, q, h2, by rw [ek]; exact h3, by rw [ek]; exact h4, h5, (fun z => by rw [z] at h6; cases h6), h7⟩
theorem own_elt {s : State} {g1 : Addr} {x : Jvm.Free.ALB.Fix} {GR : String} (hZ : Z.Warmed39 s.vm) (EG : Exa Z s.heap g1 GR) (wg : (Jvm.Cond.castable GR "java/lang/Object").before a0 Z = true) (hc : s.vm.findClass "java/lang/Object" = some x.comp) : Jvm.Free.ALB.Elt x (.ref g1) s := by
  obtain ⟨ce, ct, i1, i2, i3⟩ := Ins.of_exa EG wg
  obtain ⟨ce', kc, h1, h2, h3, h4, -⟩ := EG
  cases i1.symm.trans h1
  simp only [Bool.and_eq_true, Bool.not_eq_true'] at i3
  obtain ⟨k', q, -⟩ := hZ.alike.2.2 _ _ h3
  rw [hZ.alike.findClass] at hc
  cases hc.symm.trans i2
  exact Or.inr ⟨g1, ce, k', rfl, h1, (fun z hz => by rw [hz] at h4; cases h4), q, by rw [hZ.alike.assignable]; exact i3.2⟩
theorem own_fld {u : State} {r : Addr} {D : Cell} {C nm d : String} {f : Field} {v : Value} (hal : Z.vm.Alike u.vm) (w : (Jvm.Cond.laysFinal C C nm d).before a0 Z = true) (hc : u.vm.findClass C = some D.cls) (ff : ∃ c k i, u.fieldFound? C nm d = some (c, k, i, f)) (hD : u.heap[r]? = some D) (kn : D.vm ≠ .unknown) (ns : D.vm.isStatics = false) (sl : D.slots[f.slot]? = some v) : Fld Z u.heap r C nm d v ∧ own_Is Z u.heap r C := by
  obtain ⟨c1, k1, cf, kf, i, f', a1, a2, a3, a4, a5, a6, -⟩ := Laid.spec (a0 := a0) (Or.inr w)
  obtain ⟨k', q, -⟩ := State.fieldFound?_setVm (s := Z) hal a3
  obtain ⟨c, k, i', e⟩ := ff
  have e' : u.fieldFound? C nm d = some (cf, k', i, f') := q
  rw [e] at e'
  cases e'
  have hcZ : Z.vm.findClass C = some D.cls := by rw [← hal.findClass]; exact hc
  cases a1.symm.trans hcZ
  exact ⟨⟨D, _, kf, _, _, hD, a3, a4, kn, ns, a5, sl⟩, D, k1, hD, hcZ, a2, ns⟩
theorem own_ofN {n : Nat} (hn : n ≤ 9) : (Int32.ofNat n).toNatClampNeg = n ∧ ¬ Int32.ofNat n < 0 := by
  have t : ∀ k : Fin 10, (Int32.ofNat k.val).toNatClampNeg = k.val ∧ ¬ Int32.ofNat k.val < 0 := by decide +kernel
  exact t ⟨n, by omega⟩
theorem own_cpq {s u : State} {g : Jvm.Free.ALB.G} {g1 em r : Addr} {k n : Nat} (hw : ∀ d ∈ tables_1, d.before a0 Z = true) (hal : Z.vm.Alike u.vm) (hc : Jvm.Free.LOB.CpA g em s u r k n) (hel : ∀ i, i < g.n → g.E.slots[i]? = some (.ref g1)) (hn : g.n ≤ 9) : own_Qcpl Z g.n g1 em s.heap (some (.ref r)) u.heap [] := by
  have w1 : (Jvm.Cond.laysFinal "java/util/ImmutableCollections$List12" "java/util/ImmutableCollections$List12" "e1" "Ljava/lang/Object;").before a0 Z = true := (own_w hw 365)
  have wN : (Jvm.Cond.laysFinal "java/util/ImmutableCollections$ListN" "java/util/ImmutableCollections$ListN" "elements" "[Ljava/lang/Object;").before a0 Z = true := (own_w hw 186)
  obtain ⟨hc, hk⟩ := hc
  have kp : ∀ {x : Addr} {D : Cell}, u.heap[x]? = some D → s.heap.size ≤ x → Keep s.heap u.heap [] := fun {x D} q1 q2 =>
    ⟨Nat.le_trans q2 (Nat.le_of_lt (Array.getElem?_eq_some_iff.mp q1).1), fun y cy h1 _ => hk y cy h1, fun y cy h1 => ⟨cy, hk y cy h1, rfl, rfl, rfl⟩⟩
  rcases hc with ⟨a1, a2, a3, rfl, e0, D, f0, f1, h0, hL, hI⟩ | ⟨a1, a2, a3, rfl, e0, e1, D, f0, f1, h0, h1, hL, hI⟩ | ⟨a1, a2, a3, rfl, Tm, D, fE, m1, m2, m3, m4⟩
  · obtain ⟨F, I⟩ := own_fld hal w1 hI.1 hL.ff1 hL.hD hL.kn hI.2 hL.sl1
    exact ⟨rfl, _, rfl, Nat.le_succ _, kp hL.hD (Nat.le_succ _), Or.inl ⟨a1, I, F⟩⟩
  · obtain ⟨F, I⟩ := own_fld hal w1 hI.1 hL.ff1 hL.hD hL.kn hI.2 hL.sl1
    have q := h1.symm.trans (hel 1 (by omega))
    cases q
    exact ⟨rfl, _, rfl, Nat.le_succ _, kp hL.hD (Nat.le_succ _), Or.inr (Or.inl ⟨a1, I, F⟩)⟩
  · have ns : D.vm.isStatics = false := by
      cases q : D.vm <;> first | rfl | exact absurd q (m3.ob _)
    obtain ⟨kx, ix, ffx⟩ := m3.ffE
    obtain ⟨F, I⟩ := own_fld hal wN m3.fc ⟨_, kx, ix, ffx⟩ m3.hD m3.kn ns m3.slE
    obtain ⟨n1, n2⟩ := own_ofN hn
    have he : ∀ i, i < Tm.slots.size → (List.replicate g.n (Value.ref g1)).getD i .null = .ref g1 := fun i hi => by
      rw [m1] at hi; simp [List.getD_eq_getElem?_getD, hi]
    refine ⟨rfl, _, rfl, Nat.le_add_right _ _, kp m3.hD (Nat.le_add_right _ _), Or.inr (Or.inr ⟨a1, s.heap.size + 1, Tm.cls, List.replicate g.n (.ref g1), Nat.le_succ _, I, F, Tm, ⟨m3.hE, ⟨m3.obE, ?_⟩, m3.knE⟩, rfl, by rw [m1, n1], n2, fun i hi => ?_, fun i hi => by rw [he i hi]; rfl⟩)⟩
    · obtain ⟨k0, comp, c1, c2⟩ := m3.kE
      obtain ⟨k1, d1, d2⟩ := hal.symm.2.2 _ _ c1
      exact ⟨k1, d1, comp, by rw [d2]; exact c2⟩
    · rw [he i hi, m2 i (by rw [← m1]; exact hi), hel i (by rw [← m1]; exact hi)]
theorem own_cpl {bytes : ByteArray} {al arr g1 em el mo : Addr} {ka : ClassId} {n m : Nat} {mc zc : Int32} {h0 : Heap} (hw : ∀ d ∈ tables_1, d.before a0 Z = true)
    (E1 : Exa Z h0 al "java/util/ArrayList") (U1 : Unt h0 al) (FE : Fld Z h0 al "java/util/ArrayList" "elementData" "[Ljava/lang/Object;" (.ref arr)) (FS : Fld Z h0 al "java/util/ArrayList" "size" "I" (.int (Int32.ofNat n))) (FM : Fld Z h0 al "java/util/AbstractList" "modCount" "I" (.int mc))
    (VA : Arv Z h0 arr ka (.object "java/lang/Object") zc (own_rn n g1 m) .null) (EA : Exa Z h0 arr "[Ljava/lang/Object;") (OA : Ovr Z ka "java/lang/Object") (EG : Exa Z h0 g1 "com/example/interplay/interplay/history/Group") (ne : al ≠ arr) (hz : n ≤ zc.toNatClampNeg) (hn1 : 1 ≤ n) (hn : n ≤ 9) (SM : Sta Z h0 "java/util/ImmutableCollections" "EMPTY" "Ljava/lang/Object;" (.ref em)) (SE : Sta Z h0 "java/util/ImmutableCollections" "EMPTY_LIST" "Ljava/util/ImmutableCollections$ListN;" (.ref el)) (MO : own_Mi Z "[Ljava/lang/Object;" mo) :
    own_CN l Z ⟨"java/util/List", "copyOf", "(Ljava/util/Collection;)Ljava/util/List;"⟩ bytes 1 (some (.object "java/util/List")) [] own_Rcpl #[.ref al] h0 (own_Qcpl Z n g1 em h0) := by
  have wi : (Jvm.Cond.instantiable "java/util/ArrayList" 3).before a0 Z = true := (own_w hw 5)
  have wE : (Jvm.Cond.lays "java/util/ArrayList" "java/util/ArrayList" "elementData" "[Ljava/lang/Object;").before a0 Z = true := (own_w hw 29)
  have wS : (Jvm.Cond.lays "java/util/ArrayList" "java/util/ArrayList" "size" "I").before a0 Z = true := (own_w hw 58)
  have wM : (Jvm.Cond.lays "java/util/ArrayList" "java/util/AbstractList" "modCount" "I").before a0 Z = true := (own_w hw 26)
  have via : Via Z "java/util/ArrayList" "java/util/AbstractList" "modCount" "I" := (Via.of (own_w hw 71))
  have wg : (Jvm.Cond.castable "com/example/interplay/interplay/history/Group" "java/lang/Object").before a0 Z = true := (own_w hw 93)
  have wa : (Jvm.Cond.initialized "java/util/Arrays").before a0 Z = true := (own_w hw 224)
  have F12 := (own_nsn (own_w hw 43) (own_w hw 351) (NS.step (own_w hw 43) (NS.step (own_w hw 44) (NS.step (own_w hw 45) (own_nsr (own_w hw 46) (own_w hw 351) (by decide)) (by decide)) (by decide)) (by decide)) (by decide))
  have FN := (own_nsn (own_w hw 43) (own_w hw 328) (NS.step (own_w hw 43) (NS.step (own_w hw 44) (NS.step (own_w hw 45) (own_nsr (own_w hw 46) (own_w hw 328) (by decide)) (by decide)) (by decide)) (by decide)) (by decide))
  intro p e ha hc hk s m' args below hf happ hP hK
  obtain ⟨rfl, hZ, hh⟩ := hP
  subst hh
  obtain ⟨b1, b2, b3, b4, b5, b6, b7, -⟩ := (Spec.appliesLoose_iff hf).mp happ
  obtain ⟨x, CC, EC, xa, hA, q2, q3, q4, q5, q6⟩ := own_al (g1 := g1) (m := m) (C := "") hZ rfl wi wE wS wM via E1 U1 FE FS FM VA EA OA ne hz
  subst xa
  obtain ⟨cm, km, mm1, mm2, mm3⟩ := MO
  obtain ⟨km', mm4, mm5⟩ := hZ.alike.2.2 _ _ mm2
  have ecm : cm = x.cOA := Option.some.inj (by rw [← mm1, ← hZ.alike.findClass]; exact hA.fcO)
  subst ecm
  obtain ⟨cAR, hAR⟩ : ∃ c, s.vm.findClass "java/util/Arrays" = some c := by
    have q := mv (args := #[]) hZ wa (by rfl)
    cases hq : s.vm.findClass "java/util/Arrays" with
    | some c => exact ⟨c, rfl⟩
    | none => simp [Jvm.Cond.before, Jvm.Cond.holds, Jvm.Cond.value, hq] at q
  obtain ⟨c1, c12, f1, f2, f3⟩ := F12
  obtain ⟨c2, cN, f4, f5, f6⟩ := FN
  cases q6.symm.trans f1
  cases q6.symm.trans f4
  have hel : ∀ i, i < n → EC.slots[i]? = some (.ref g1) := fun i hi => by
    rw [q3 i (by rw [q2]; omega)]; congr 1
    simp [own_rn, List.getD_eq_getElem?_getD, List.getElem?_append_left, hi]
  obtain ⟨k, o, w1, w2, w3, w4⟩ := Jvm.Free.LOB.CopyOf.all l 9 { x := x, C := CC, ea := arr, E := EC, n := n, mc := mc } ⟨mo, cAR⟩ c12 cN em el p e ha hc hk s m' _ below hf
    ((Spec.appliesLoose_iff (S := Jvm.Free.LOB.CopyOf.specAll 9) hf).mpr ⟨b1, b2, b3, b4, b5, b6, b7, by simp only [Jvm.Free.LOB.CopyOf.specAll, Jvm.Cond.before_and, Bool.and_eq_true]; exact ⟨rfl, own_tabs hw hZ⟩⟩)
    ⟨rfl, hA, ⟨q4, hAR, km', mm4, by rw [mm5]; exact mm3⟩, fun i hi => ⟨_, q3 i hi, by
        by_cases y : i < n
        · have := (q3 i hi).symm.trans (hel i y); rw [Option.some.inj this]; exact own_elt hZ EG wg q4
        · refine Or.inl ?_
          simp only [own_rn, List.getD_eq_getElem?_getD]
          rw [List.getElem?_append_right (by simp; omega), List.getElem?_replicate]; split <;> rfl⟩, fun i hi => by rw [hel i hi]; simp, hn, by show n * 4 ≤ _; omega, by rw [hZ.alike.findClass]; exact f2, by rw [hZ.alike.assignable]; exact f3, by rw [hZ.alike.findClass]; exact f5, by rw [hZ.alike.assignable]; exact f6, own_sis hZ SM, own_sis hZ SE⟩ trivial
  refine ⟨k, o, w1, w2, w3, ?_⟩
  rcases w4 with ⟨hn0, -⟩ | ⟨hp1, r, k2, n2, rfl, hcA, hF⟩
  · have hn0' : n = 0 := hn0
    omega
  · have q := own_cpq (g1 := g1) hw (hZ.alike.trans hF.2.1.alike) hcA hel hn
    have hk2 : k2 ≤ 2 ∧ n2 ≤ n + 2 := by
      rcases hcA.1 with ⟨-, a2, a3, -⟩ | ⟨-, a2, a3, -⟩ | ⟨-, a2, a3, -⟩ <;> subst a2 <;> subst a3 <;> (try show _ ≤ _ ∧ _) <;> simp <;> omega
    exact ⟨_, [], rfl, q, ⟨hF.1, hF.2.1, hF.2.2.mono (by show 1 + k2 ≤ 3; omega) (by show n + n2 ≤ 20; omega)⟩⟩
theorem own_q1 {g1 em : Addr} {h0 h : Heap} {v : Option Value} {L : List Loc} (q : own_Qcpl Z 1 g1 em h0 v h L) : ∃ r, v = some (.ref r) ∧ L = [] ∧ h0.size ≤ r ∧ Keep h0 h [] ∧ own_Is Z h r "java/util/ImmutableCollections$List12" ∧ Fld Z h r "java/util/ImmutableCollections$List12" "e1" "Ljava/lang/Object;" (.ref em) := by
  obtain ⟨h1, r, h2, h3, h4, ⟨-, I, F⟩ | ⟨z, -⟩ | ⟨z, -⟩⟩ := q
  · exact ⟨r, h2, h1, h3, h4, I, F⟩
  · omega
  · omega
theorem own_q2 {g1 em : Addr} {h0 h : Heap} {v : Option Value} {L : List Loc} (q : own_Qcpl Z 2 g1 em h0 v h L) : ∃ r, v = some (.ref r) ∧ L = [] ∧ h0.size ≤ r ∧ Keep h0 h [] ∧ own_Is Z h r "java/util/ImmutableCollections$List12" ∧ Fld Z h r "java/util/ImmutableCollections$List12" "e1" "Ljava/lang/Object;" (.ref g1) := by
  obtain ⟨h1, r, h2, h3, h4, ⟨z, -⟩ | ⟨-, I, F⟩ | ⟨z, -⟩⟩ := q
  · omega
  · exact ⟨r, h2, h1, h3, h4, I, F⟩
  · omega
theorem own_q3 {n : Nat} {g1 em : Addr} {h0 h : Heap} {v : Option Value} {L : List Loc} (q : own_Qcpl Z n g1 em h0 v h L) (hn : 3 ≤ n) : ∃ (r b : Addr) (k : ClassId) (vs : List Value), v = some (.ref r) ∧ L = [] ∧ h0.size ≤ r ∧ h0.size ≤ b ∧ Keep h0 h [] ∧ own_Is Z h r "java/util/ImmutableCollections$ListN" ∧ Fld Z h r "java/util/ImmutableCollections$ListN" "elements" "[Ljava/lang/Object;" (.ref b) ∧ Arv Z h b k (.object "java/lang/Object") (Int32.ofNat n) vs .null := by
  obtain ⟨h1, r, h2, h3, h4, ⟨z, -⟩ | ⟨z, -⟩ | ⟨-, b, k, vs, h5, I, F, V⟩⟩ := q
  · omega
  · omega
  · exact ⟨r, b, k, vs, h2, h1, h3, h5, h4, I, F, V⟩
section Lst
variable {h h' : Heap} {a b r x em : Addr} {C : String} {sl : Nat} {v : Value} {ws : List Addr} {n : Int32}
theorem own_Is.ext (F : own_Is Z h a C) (E : Ext h h') : own_Is Z h' a C := by obtain ⟨cell, k, h1, r⟩ := F; exact ⟨cell, k, E.2 _ _ h1, r⟩
theorem own_Is.wr (F : own_Is Z h b C) (W : Wr h h' a sl v) : own_Is Z h' b C := by
  obtain ⟨cell, k, h1, h2, h3, h4⟩ := F
  obtain ⟨c', e1, e2, e3, e4, -⟩ := wr_at W h1
  exact ⟨c', k, e1, by rw [e2]; exact h2, by rw [e2]; exact h3, by rw [e3]; exact h4⟩
theorem own_Is.keep (F : own_Is Z h a C) (K : Keep h h' ws) : own_Is Z h' a C := by
  obtain ⟨cell, k, h1, h2, h3, h4⟩ := F
  obtain ⟨c', q, r1, r2, r3⟩ := K.2.2 a cell h1
  exact ⟨c', k, q, r1 ▸ h2, r1 ▸ h3, r2 ▸ h4⟩
theorem own_Is.lt (F : own_Is Z h a C) : a < h.size := by obtain ⟨_, _, h1, -⟩ := F; exact (Array.getElem?_eq_some_iff.mp h1).1
theorem own_isx (E : Exa Z h a C) : own_Is Z h a C := by obtain ⟨cell, k, h1, h2, h3, h4, -⟩ := E; exact ⟨cell, k, h1, h2, h3, h4⟩
/-- an immutable list of n elements, as far as size() reads it -/
def own_lst (Z : State) (em : Addr) (h : Heap) (r b : Addr) (n : Int32) : Prop :=
  (own_Is Z h r "java/util/ImmutableCollections$ListN" ∧ Fld Z h r "java/util/ImmutableCollections$ListN" "elements" "[Ljava/lang/Object;" (.ref b) ∧ ∃ k vs, Arv Z h b k (.object "java/lang/Object") n vs .null) ∨
  (own_Is Z h r "java/util/ImmutableCollections$List12" ∧ ∃ x, Fld Z h r "java/util/ImmutableCollections$List12" "e1" "Ljava/lang/Object;" (.ref x) ∧ ((n = (1 : Int32) ∧ x = em) ∨ (n = (2 : Int32) ∧ x ≠ em)))
theorem own_lst.ext (F : own_lst Z em h r b n) (E : Ext h h') : own_lst Z em h' r b n := by
  rcases F with ⟨I, F, k, vs, V⟩ | ⟨I, x, F, q⟩
  · exact Or.inl ⟨I.ext E, F.ext E, k, vs, V.ext E⟩
  · exact Or.inr ⟨I.ext E, x, F.ext E, q⟩
theorem own_lst.wr (F : own_lst Z em h r b n) (W : Wr h h' a sl v) (h1 : r ≠ a) (h2 : b ≠ a) : own_lst Z em h' r b n := by
  rcases F with ⟨I, F, k, vs, V⟩ | ⟨I, x, F, q⟩
  · exact Or.inl ⟨I.wr W, F.other W (Or.inl h1), k, vs, V.other W h2⟩
  · exact Or.inr ⟨I.wr W, x, F.other W (Or.inl h1), q⟩
theorem own_lst.keep (F : own_lst Z em h r b n) (K : Keep h h' ws) (h1 : r ∉ ws) (h2 : b ∉ ws) : own_lst Z em h' r b n := by
  rcases F with ⟨I, F, k, vs, V⟩ | ⟨I, x, F, q⟩
  · exact Or.inl ⟨I.keep K, F.keep K h1, k, vs, V.keep K h2⟩
  · exact Or.inr ⟨I.keep K, x, F.keep K h1, q⟩
theorem own_isOf {s T : State} (hZ : Z.Warmed39 s.vm) (eT : T.heap = h) (E : own_Is Z h a C) : ∃ cB kB, s.vm.findClass C = some cB ∧ s.vm.classes[cB]? = some kB ∧ IsOf cB T a := by
  obtain ⟨cell, k, h1, h2, h3, h4⟩ := E
  obtain ⟨k', q, -⟩ := hZ.alike.2.2 _ _ h3
  exact ⟨cell.cls, k', by rw [hZ.alike.findClass]; exact h2, q, cell, by rw [eT]; exact h1, rfl, h4⟩
end Lst
end OwnCopy2
abbrev y0 : MethodName := ⟨"java/util/ImmutableCollections$ListN", "size", "()I"⟩
abbrev y1 : MethodName := ⟨"java/util/ImmutableCollections$List12", "size", "()I"⟩
abbrev y2 : MethodName := ⟨"java/lang/AbstractStringBuilder", "<init>", "(I)V"⟩
abbrev y3 : MethodName := ⟨"java/lang/StringBuilder", "<init>", "()V"⟩
abbrev y4 : MethodName := ⟨"java/lang/AbstractStringBuilder", "ensureCapacityInternal", "(I)V"⟩
abbrev y5 : MethodName := ⟨"java/lang/String", "coder", "()B"⟩
abbrev y6 : MethodName := ⟨"java/lang/AbstractStringBuilder", "inflateIfNeededFor", "(Ljava/lang/String;)V"⟩
abbrev y7 : MethodName := ⟨"java/lang/String", "getBytes", "([BIB)V"⟩
abbrev y8 : MethodName := ⟨"java/lang/AbstractStringBuilder", "putStringAt", "(ILjava/lang/String;)V"⟩
abbrev y9 : MethodName := ⟨"java/lang/AbstractStringBuilder", "append", "(Ljava/lang/String;)Ljava/lang/AbstractStringBuilder;"⟩
abbrev y10 : MethodName := ⟨"java/lang/StringBuilder", "append", "(Ljava/lang/String;)Ljava/lang/StringBuilder;"⟩
abbrev y11 : MethodName := ⟨"java/lang/Integer", "stringSize", "(I)I"⟩
abbrev y12 : MethodName := ⟨"java/lang/AbstractStringBuilder", "isLatin1", "()Z"⟩
abbrev y13 : MethodName := ⟨"java/lang/Integer", "getChars", "(II[B)I"⟩
abbrev y14 : MethodName := ⟨"java/lang/AbstractStringBuilder", "append", "(I)Ljava/lang/AbstractStringBuilder;"⟩
abbrev y15 : MethodName := ⟨"java/lang/StringBuilder", "append", "(I)Ljava/lang/StringBuilder;"⟩
abbrev y16 : MethodName := ⟨"java/lang/Math", "max", "(II)I"⟩
abbrev y17 : MethodName := ⟨"jdk/internal/util/ArraysSupport", "newLength", "(III)I"⟩
abbrev y18 : MethodName := ⟨"java/lang/AbstractStringBuilder", "newCapacity", "(I)I"⟩
abbrev y19 : MethodName := ⟨"java/lang/Math", "min", "(II)I"⟩
abbrev y20 : MethodName := ⟨"java/util/Arrays", "copyOf", "([BI)[B"⟩
abbrev y21 : MethodName := ⟨"java/lang/AbstractStringBuilder", "getValue", "()[B"⟩
abbrev y22 : MethodName := ⟨"java/lang/AbstractStringBuilder", "length", "()I"⟩
abbrev y23 : MethodName := ⟨"java/lang/StringBuilder", "length", "()I"⟩
abbrev y24 : MethodName := ⟨"java/util/Arrays", "checkLength", "(II)V"⟩
abbrev y25 : MethodName := ⟨"java/util/Arrays", "copyOfRangeByte", "([BII)[B"⟩
abbrev y26 : MethodName := ⟨"java/util/Arrays", "copyOfRange", "([BII)[B"⟩
abbrev y27 : MethodName := ⟨"java/lang/String", "<init>", "(Ljava/lang/AbstractStringBuilder;Ljava/lang/Void;)V"⟩
abbrev y28 : MethodName := ⟨"java/lang/String", "<init>", "(Ljava/lang/StringBuilder;)V"⟩
abbrev y29 : MethodName := ⟨"java/lang/StringBuilder", "toString", "()Ljava/lang/String;"⟩
abbrev y30 : MethodName := ⟨"com/example/interplay/interplay/history/Group", "toString", "()Ljava/lang/String;"⟩
abbrev y31 : MethodName := ⟨"java/lang/String", "<init>", "([C)V"⟩
abbrev y32 : MethodName := ⟨"java/lang/String", "equals", "(Ljava/lang/Object;)Z"⟩
abbrev y33 : MethodName := ⟨"java/util/AbstractCollection", "<init>", "()V"⟩
abbrev y34 : MethodName := ⟨"java/util/AbstractList", "<init>", "()V"⟩
abbrev y35 : MethodName := ⟨"java/util/ArrayList", "<init>", "()V"⟩
abbrev y36 : MethodName := ⟨"java/util/ArrayList", "isEmpty", "()Z"⟩
abbrev y37 : MethodName := ⟨"java/util/Collection", "isEmpty", "()Z"⟩
abbrev y38 : MethodName := ⟨"java/util/List", "of", "()Ljava/util/List;"⟩
abbrev y39 : MethodName := ⟨"java/util/ImmutableCollections", "listCopy", "(Ljava/util/Collection;)Ljava/util/List;"⟩
abbrev y40 : MethodName := ⟨"java/util/List", "copyOf", "(Ljava/util/Collection;)Ljava/util/List;"⟩
abbrev y41 : MethodName := ⟨"com/example/interplay/interplay/history/Group", "<init>", "(Ljava/util/List;)V"⟩
abbrev y42 : MethodName := ⟨"java/util/ArrayList", "grow", "(I)[Ljava/lang/Object;"⟩
abbrev y43 : MethodName := ⟨"java/util/ArrayList", "grow", "()[Ljava/lang/Object;"⟩
abbrev y44 : MethodName := ⟨"java/util/ArrayList", "add", "(Ljava/lang/Object;[Ljava/lang/Object;I)V"⟩
abbrev y45 : MethodName := ⟨"java/util/ArrayList", "add", "(Ljava/lang/Object;)Z"⟩
abbrev y46 : MethodName := ⟨"java/util/Arrays", "copyOf", "([Ljava/lang/Object;ILjava/lang/Class;)[Ljava/lang/Object;"⟩
abbrev y47 : MethodName := ⟨"java/util/Arrays", "copyOf", "([Ljava/lang/Object;I)[Ljava/lang/Object;"⟩
section
variable {p : Program} {l : Launch} {e : Env} {R : Room} {s : State} {m : MethodId} {args : Array Value} {below : List Frame} {meth : Method} {c : Code} {T T' U Z : State} {locs : List Loc} {cells slots : Nat} {h h' h0 : Heap} {a b : Addr} {n0 : Nat}
theorem qa (X : Stand p l e R s m args below meth c T locs cells slots) (hx : p.tables.exec = Jvm.exec) {bs : ByteArray} (hby : c.code = bs) {g : JFrame} {k : Fin 4} {v : Value} {t : State} (hd : decode bs g.pc = .ok (.aload_n k, 1)) (hg : g.method = m) (hl : g.locals[k.val]? = some (.val v)) (hv : v.isRef = true) (hr : Steps p.tables e below (T.setTop { g with pc := g.pc + 1, stack := v :: g.stack }) t) : Steps p.tables e below (T.setTop g) t := XS.aloadN X.here hx hg (hb hby hd) hl hv hr
theorem qi (X : Stand p l e R s m args below meth c T locs cells slots) (hx : p.tables.exec = Jvm.exec) {bs : ByteArray} (hby : c.code = bs) {g : JFrame} {k : Fin 4} {v : Int32} {t : State} (hd : decode bs g.pc = .ok (.iload_n k, 1)) (hg : g.method = m) (hl : g.locals[k.val]? = some (.val (.int v))) (hr : Steps p.tables e below (T.setTop { g with pc := g.pc + 1, stack := .int v :: g.stack }) t) : Steps p.tables e below (T.setTop g) t := XS.iloadN X.here hx hg (hb hby hd) hl hr
theorem qb (X : Stand p l e R s m args below meth c T locs cells slots) (hx : p.tables.exec = Jvm.exec) {bs : ByteArray} (hby : c.code = bs) {g : JFrame} {i : Int} {t : State} (hd : decode bs g.pc = .ok (.bipush i, 2)) (hg : g.method = m) (hr : Steps p.tables e below (T.setTop { g with pc := g.pc + 2, stack := .int (Int8.ofInt i).toInt32 :: g.stack }) t) : Steps p.tables e below (T.setTop g) t := XS.bipush X.here hx hg (hb hby hd) hr
theorem qc (X : Stand p l e R s m args below meth c T locs cells slots) (hx : p.tables.exec = Jvm.exec) {bs : ByteArray} (hby : c.code = bs) {g : JFrame} {i : Int} {t : State} (hd : decode bs g.pc = .ok (.iconst i, 1)) (hg : g.method = m) (hr : Steps p.tables e below (T.setTop { g with pc := g.pc + 1, stack := .int (Int32.ofInt i) :: g.stack }) t) : Steps p.tables e below (T.setTop g) t := XS.iconst X.here hx hg (hb hby hd) hr
theorem qn (X : Stand p l e R s m args below meth c T locs cells slots) (hx : p.tables.exec = Jvm.exec) {bs : ByteArray} (hby : c.code = bs) {g : JFrame} {cd : ClassFile.Cond} {o : Int} {x y : Int32} {rest : List Value} {t : State} (hd : decode bs g.pc = .ok (.if_icmp cd o, 3)) (hg : g.method = m) (hs : g.stack = .int y :: .int x :: rest) (hc : if_icmp.holds cd x y = false) (hr : Steps p.tables e below (T.setTop { g with pc := g.pc + 3, stack := rest }) t) : Steps p.tables e below (T.setTop g) t := XS.icmpNo X.here hx hg (hb hby hd) hs hc hr
theorem qp (X : Stand p l e R s m args below meth c T locs cells slots) (hx : p.tables.exec = Jvm.exec) {bs : ByteArray} (hby : c.code = bs) {g : JFrame} {x y : Int32} {rest : List Value} {t : State} (hd : decode bs g.pc = .ok (.iadd, 1)) (hg : g.method = m) (hs : g.stack = .int y :: .int x :: rest) (hr : Steps p.tables e below (T.setTop { g with pc := g.pc + 1, stack := .int (x + y) :: rest }) t) : Steps p.tables e below (T.setTop g) t := XS.iadd X.here hx hg (hb hby hd) hs hr
theorem qf (X : Stand p l e R s m args below meth c T locs cells slots) (hx : p.tables.exec = Jvm.exec) {a0 : Array Value} {C : String} (hZ : Z.Warmed39 s.vm) {own n d : String} {index : Nat} (hown : s.vm.findClass own = some m.cls) (hl : (Cond.fieldLink own index C n d).before a0 Z = true) (eT : T.heap = h) {v : Value} (F : Fld Z h a C n d v) {g : JFrame} {rest : List Value} (hg : g.method = m) (hs : g.stack = .ref a :: rest) {bs : ByteArray} (hby : c.code = bs) (hd : decode bs g.pc = .ok (.getfield index, 3)) : ∃ T', Stand p l e R s m args below meth c T' locs cells slots ∧ T'.heap = h ∧ ∀ target, Steps p.tables e below (T'.setTop { g with pc := g.pc + 3, stack := v :: rest }) target → Steps p.tables e below (T.setTop g) target := getF X hx hZ hown (host := "") (Or.inl hl) Via.refl eT F hg hs (hb hby hd)
theorem zs {g : JFrame} {n : Nat} (q : c.maxLocals = n) (r : g.locals.size = n := by rfl) : g.locals.size = c.maxLocals := r.trans q.symm
theorem tq (n : Int32) : if_icmp.holds .ne n n = false := (teq rfl).2
theorem own_ra (X : Stand p l e R s m args below meth c T locs cells slots) (hx : p.tables.exec = Jvm.exec) {pc : Nat} {Ls : Array Slot} {w : Value} {t : FieldType} {rest : List Value} (hret : meth.sig.returnType = some t) (hn : narrow t w = w) (ht : t.isReference = true) (hw : w.isRef = true) (hd : decode c.code pc = .ok (.areturn, 1)) (fs : List Frame) (hl : ∀ (f : JFrame) (acts : List Action), f.method = m → f.locked = none → f.entered = [] → (doReturn e (T.setTop f) acts (some w)).1 = T.setFrames fs) : Steps p.tables e below (T.setTop (mkF m pc Ls (w :: rest))) (T.setFrames fs) := retOut X hx hret hn (Or.inr (Or.inr (Or.inr (Or.inr ⟨rfl, ht, hw⟩)))) hd hl
abbrev own_L (cs : List Int32) : Prop := ∀ c ∈ cs, ¬ c < 0 ∧ ¬ (255 : Int32) < c
end
theorem ow {Z : State} {a0 : Array Value} (hw : ∀ d ∈ tables_1, d.before a0 Z = true) (i : Nat) {d : Jvm.Cond} (q : tables_1[i]? = some d := by rfl) : d.before a0 Z = true := hw d (List.mem_of_getElem? q)
abbrev B0' : ByteArray := jdk_38_method_2_code
abbrev B1' : ByteArray := jdk_39_method_1_code
abbrev B2' : ByteArray := jdk_22_method_1_code
abbrev B3' : ByteArray := prog_29_method_1_code
abbrev B4' : ByteArray := jdk_40_method_48_code
abbrev B5' : ByteArray := jdk_56_method_3_code
abbrev B6' : ByteArray := jdk_38_method_9_code
abbrev B7' : ByteArray := jdk_40_method_36_code
abbrev B8' : ByteArray := jdk_38_method_25_code
abbrev B9' : ByteArray := jdk_38_method_24_code
abbrev B10' : ByteArray := jdk_38_method_7_code
abbrev B11' : ByteArray := jdk_38_method_6_code
abbrev B12' : ByteArray := jdk_29_method_65_code
abbrev B13' : ByteArray := prog_29_method_6_code
abbrev B14' : ByteArray := jdk_67_method_1_code
abbrev B15' : ByteArray := jdk_68_method_2_code
abbrev B16' : ByteArray := jdk_67_method_7_code
abbrev B17' : ByteArray := jdk_68_method_22_code
abbrev B18' : ByteArray := jdk_42_method_152_code
abbrev B19' : ByteArray := jdk_68_method_9_code
abbrev B20' : ByteArray := jdk_68_method_73_code
abbrev B21' : ByteArray := jdk_68_method_71_code
abbrev B22' : ByteArray := jdk_42_method_147_code
abbrev B23' : ByteArray := jdk_45_method_3_code
abbrev B24' : ByteArray := jdk_67_method_15_code
abbrev B25' : ByteArray := jdk_68_method_32_code
abbrev B26' : ByteArray := jdk_33_method_13_code
abbrev B27' : ByteArray := jdk_68_method_68_code
abbrev B28' : ByteArray := jdk_33_method_12_code
abbrev B29' : ByteArray := jdk_68_method_10_code
abbrev B30' : ByteArray := jdk_48_method_27_code
abbrev B31' : ByteArray := jdk_65_method_121_code
abbrev B32' : ByteArray := jdk_29_method_69_code
abbrev B33' : ByteArray := jdk_67_method_42_code
abbrev B34' : ByteArray := jdk_42_method_53_code
abbrev B35' : ByteArray := jdk_42_method_150_code
abbrev B36' : ByteArray := jdk_68_method_64_code
abbrev B37' : ByteArray := jdk_67_method_93_code
abbrev B38' : ByteArray := jdk_68_method_6_code
abbrev B39' : ByteArray := jdk_65_method_132_code
abbrev B40' : ByteArray := jdk_65_method_133_code
abbrev B41' : ByteArray := jdk_65_method_131_code
abbrev B42' : ByteArray := jdk_65_method_119_code
abbrev B43' : ByteArray := jdk_65_method_120_code
abbrev B44' : ByteArray := jdk_44_method_3_code
abbrev cL0 : List Int32 := [103, 114, 111, 117, 112, 32, 111, 102, 32]
abbrev cL1 : List Int32 := [32, 99, 111, 109, 109, 97, 110, 100, 115]
theorem d1_0 : decode B0' 0 = .ok (.aload_n 0, 1) := by decide +kernel
theorem d1_1 : decode B0' 1 = .ok (.invokespecial 1, 3) := by decide +kernel
theorem d1_4 : decode B0' 4 = .ok (.aload_n 0, 1) := by decide +kernel
theorem d1_5 : decode B0' 5 = .ok (.getstatic 39, 3) := by decide +kernel
theorem d1_8 : decode B0' 8 = .ok (.putfield 9, 3) := by decide +kernel
theorem d1_11 : decode B0' 11 = .ok (.return_, 1) := by decide +kernel
theorem d2_0 : decode B1' 0 = .ok (.aload_n 0, 1) := by decide +kernel
theorem d2_1 : decode B1' 1 = .ok (.invokespecial 1, 3) := by decide +kernel
theorem d2_4 : decode B1' 4 = .ok (.aload_n 0, 1) := by decide +kernel
theorem d2_5 : decode B1' 5 = .ok (.iconst 0, 1) := by decide +kernel
theorem d2_6 : decode B1' 6 = .ok (.putfield 7, 3) := by decide +kernel
theorem d2_9 : decode B1' 9 = .ok (.return_, 1) := by decide +kernel
theorem d3_0 : decode B2' 0 = .ok (.aload_n 0, 1) := by decide +kernel
theorem d3_1 : decode B2' 1 = .ok (.invokespecial 1, 3) := by decide +kernel
theorem d3_4 : decode B2' 4 = .ok (.return_, 1) := by decide +kernel
theorem d5_0 : decode B3' 0 = .ok (.aload_n 0, 1) := by decide +kernel
theorem d5_1 : decode B3' 1 = .ok (.invokespecial 1, 3) := by decide +kernel
theorem d5_4 : decode B3' 4 = .ok (.aload_n 0, 1) := by decide +kernel
theorem d5_5 : decode B3' 5 = .ok (.aload_n 1, 1) := by decide +kernel
theorem d5_6 : decode B3' 6 = .ok (.invokestatic 7, 3) := by decide +kernel
theorem d5_9 : decode B3' 9 = .ok (.putfield 13, 3) := by decide +kernel
theorem d5_12 : decode B3' 12 = .ok (.return_, 1) := by decide +kernel
theorem d6_0 : decode B4' 0 = .ok (.aload_n 0, 1) := by decide +kernel
theorem d6_1 : decode B4' 1 = .ok (.invokestatic 112, 3) := by decide +kernel
theorem d6_4 : decode B4' 4 = .ok (.areturn, 1) := by decide +kernel
theorem d7_0 : decode B5' 0 = .ok (.aload_n 0, 1) := by decide +kernel
theorem d7_1 : decode B5' 1 = .ok (.instanceof 10, 3) := by decide +kernel
theorem d7_4 : decode B5' 4 = .ok (.ifCond .ne 22, 3) := by decide +kernel
theorem d7_7 : decode B5' 7 = .ok (.aload_n 0, 1) := by decide +kernel
theorem d7_8 : decode B5' 8 = .ok (.instanceof 12, 3) := by decide +kernel
theorem d7_11 : decode B5' 11 = .ok (.ifCond .eq 20, 3) := by decide +kernel
theorem d7_31 : decode B5' 31 = .ok (.aload_n 0, 1) := by decide +kernel
theorem d7_32 : decode B5' 32 = .ok (.invokeinterface 20 1, 5) := by decide +kernel
theorem d7_37 : decode B5' 37 = .ok (.ifCond .eq 7, 3) := by decide +kernel
theorem d7_40 : decode B5' 40 = .ok (.invokestatic 26, 3) := by decide +kernel
theorem d7_43 : decode B5' 43 = .ok (.areturn, 1) := by decide +kernel
theorem d8_0 : decode B6' 0 = .ok (.aload_n 0, 1) := by decide +kernel
theorem d8_1 : decode B6' 1 = .ok (.getfield 48, 3) := by decide +kernel
theorem d8_4 : decode B6' 4 = .ok (.ifCond .ne 7, 3) := by decide +kernel
theorem d8_7 : decode B6' 7 = .ok (.iconst 1, 1) := by decide +kernel
theorem d8_8 : decode B6' 8 = .ok (.goto 4, 3) := by decide +kernel
theorem d8_11 : decode B6' 11 = .ok (.iconst 0, 1) := by decide +kernel
theorem d8_12 : decode B6' 12 = .ok (.ireturn, 1) := by decide +kernel
theorem d9_0 : decode B7' 0 = .ok (.getstatic 90, 3) := by decide +kernel
theorem d9_3 : decode B7' 3 = .ok (.areturn, 1) := by decide +kernel
theorem d10_0 : decode B8' 0 = .ok (.aload_n 0, 1) := by decide +kernel
theorem d10_1 : decode B8' 1 = .ok (.dup, 1) := by decide +kernel
theorem d10_2 : decode B8' 2 = .ok (.getfield 63, 3) := by decide +kernel
theorem d10_5 : decode B8' 5 = .ok (.iconst 1, 1) := by decide +kernel
theorem d10_6 : decode B8' 6 = .ok (.iadd, 1) := by decide +kernel
theorem d10_7 : decode B8' 7 = .ok (.putfield 63, 3) := by decide +kernel
theorem d10_10 : decode B8' 10 = .ok (.aload_n 0, 1) := by decide +kernel
theorem d10_11 : decode B8' 11 = .ok (.aload_n 1, 1) := by decide +kernel
theorem d10_12 : decode B8' 12 = .ok (.aload_n 0, 1) := by decide +kernel
theorem d10_13 : decode B8' 13 = .ok (.getfield 9, 3) := by decide +kernel
theorem d10_16 : decode B8' 16 = .ok (.aload_n 0, 1) := by decide +kernel
theorem d10_17 : decode B8' 17 = .ok (.getfield 48, 3) := by decide +kernel
theorem d10_20 : decode B8' 20 = .ok (.invokevirtual 131, 3) := by decide +kernel
theorem d10_23 : decode B8' 23 = .ok (.iconst 1, 1) := by decide +kernel
theorem d10_24 : decode B8' 24 = .ok (.ireturn, 1) := by decide +kernel
theorem d11_0 : decode B9' 0 = .ok (.iload_n 3, 1) := by decide +kernel
theorem d11_1 : decode B9' 1 = .ok (.aload_n 2, 1) := by decide +kernel
theorem d11_2 : decode B9' 2 = .ok (.arraylength, 1) := by decide +kernel
theorem d11_3 : decode B9' 3 = .ok (.if_icmp .ne 8, 3) := by decide +kernel
theorem d11_6 : decode B9' 6 = .ok (.aload_n 0, 1) := by decide +kernel
theorem d11_7 : decode B9' 7 = .ok (.invokevirtual 129, 3) := by decide +kernel
theorem d11_10 : decode B9' 10 = .ok (.astore_n 2, 1) := by decide +kernel
theorem d11_11 : decode B9' 11 = .ok (.aload_n 2, 1) := by decide +kernel
theorem d11_12 : decode B9' 12 = .ok (.iload_n 3, 1) := by decide +kernel
theorem d11_13 : decode B9' 13 = .ok (.aload_n 1, 1) := by decide +kernel
theorem d11_14 : decode B9' 14 = .ok (.aastore, 1) := by decide +kernel
theorem d11_15 : decode B9' 15 = .ok (.aload_n 0, 1) := by decide +kernel
theorem d11_16 : decode B9' 16 = .ok (.iload_n 3, 1) := by decide +kernel
theorem d11_17 : decode B9' 17 = .ok (.iconst 1, 1) := by decide +kernel
theorem d11_18 : decode B9' 18 = .ok (.iadd, 1) := by decide +kernel
theorem d11_19 : decode B9' 19 = .ok (.putfield 48, 3) := by decide +kernel
theorem d11_22 : decode B9' 22 = .ok (.return_, 1) := by decide +kernel
theorem d12_0 : decode B10' 0 = .ok (.aload_n 0, 1) := by decide +kernel
theorem d12_1 : decode B10' 1 = .ok (.aload_n 0, 1) := by decide +kernel
theorem d12_2 : decode B10' 2 = .ok (.getfield 48, 3) := by decide +kernel
theorem d12_5 : decode B10' 5 = .ok (.iconst 1, 1) := by decide +kernel
theorem d12_6 : decode B10' 6 = .ok (.iadd, 1) := by decide +kernel
theorem d12_7 : decode B10' 7 = .ok (.invokevirtual 69, 3) := by decide +kernel
theorem d12_10 : decode B10' 10 = .ok (.areturn, 1) := by decide +kernel
theorem d13_0 : decode B11' 0 = .ok (.aload_n 0, 1) := by decide +kernel
theorem d13_1 : decode B11' 1 = .ok (.getfield 9, 3) := by decide +kernel
theorem d13_4 : decode B11' 4 = .ok (.arraylength, 1) := by decide +kernel
theorem d13_5 : decode B11' 5 = .ok (.istore_n 2, 1) := by decide +kernel
theorem d13_6 : decode B11' 6 = .ok (.iload_n 2, 1) := by decide +kernel
theorem d13_7 : decode B11' 7 = .ok (.ifCond .gt 13, 3) := by decide +kernel
theorem d13_10 : decode B11' 10 = .ok (.aload_n 0, 1) := by decide +kernel
theorem d13_11 : decode B11' 11 = .ok (.getfield 9, 3) := by decide +kernel
theorem d13_14 : decode B11' 14 = .ok (.getstatic 39, 3) := by decide +kernel
theorem d13_17 : decode B11' 17 = .ok (.if_acmp .eq 28, 3) := by decide +kernel
theorem d13_20 : decode B11' 20 = .ok (.iload_n 2, 1) := by decide +kernel
theorem d13_21 : decode B11' 21 = .ok (.iload_n 1, 1) := by decide +kernel
theorem d13_22 : decode B11' 22 = .ok (.iload_n 2, 1) := by decide +kernel
theorem d13_23 : decode B11' 23 = .ok (.isub, 1) := by decide +kernel
theorem d13_24 : decode B11' 24 = .ok (.iload_n 2, 1) := by decide +kernel
theorem d13_25 : decode B11' 25 = .ok (.iconst 1, 1) := by decide +kernel
theorem d13_26 : decode B11' 26 = .ok (.ishr, 1) := by decide +kernel
theorem d13_27 : decode B11' 27 = .ok (.invokestatic 73, 3) := by decide +kernel
theorem d13_30 : decode B11' 30 = .ok (.istore_n 3, 1) := by decide +kernel
theorem d13_31 : decode B11' 31 = .ok (.aload_n 0, 1) := by decide +kernel
theorem d13_32 : decode B11' 32 = .ok (.aload_n 0, 1) := by decide +kernel
theorem d13_33 : decode B11' 33 = .ok (.getfield 9, 3) := by decide +kernel
theorem d13_36 : decode B11' 36 = .ok (.iload_n 3, 1) := by decide +kernel
theorem d13_37 : decode B11' 37 = .ok (.invokestatic 66, 3) := by decide +kernel
theorem d13_40 : decode B11' 40 = .ok (.dup_x1, 1) := by decide +kernel
theorem d13_41 : decode B11' 41 = .ok (.putfield 9, 3) := by decide +kernel
theorem d13_44 : decode B11' 44 = .ok (.areturn, 1) := by decide +kernel
theorem d13_45 : decode B11' 45 = .ok (.aload_n 0, 1) := by decide +kernel
theorem d13_46 : decode B11' 46 = .ok (.bipush 10, 2) := by decide +kernel
theorem d13_48 : decode B11' 48 = .ok (.iload_n 1, 1) := by decide +kernel
theorem d13_49 : decode B11' 49 = .ok (.invokestatic 79, 3) := by decide +kernel
theorem d13_52 : decode B11' 52 = .ok (.anewarray 7, 3) := by decide +kernel
theorem d13_55 : decode B11' 55 = .ok (.dup_x1, 1) := by decide +kernel
theorem d13_56 : decode B11' 56 = .ok (.putfield 9, 3) := by decide +kernel
theorem d13_59 : decode B11' 59 = .ok (.areturn, 1) := by decide +kernel
theorem d14_0 : decode B12' 0 = .ok (.iload_n 0, 1) := by decide +kernel
theorem d14_1 : decode B12' 1 = .ok (.iload_n 1, 1) := by decide +kernel
theorem d14_2 : decode B12' 2 = .ok (.if_icmp .lt 7, 3) := by decide +kernel
theorem d14_5 : decode B12' 5 = .ok (.iload_n 0, 1) := by decide +kernel
theorem d14_6 : decode B12' 6 = .ok (.goto 4, 3) := by decide +kernel
theorem d14_9 : decode B12' 9 = .ok (.iload_n 1, 1) := by decide +kernel
theorem d14_10 : decode B12' 10 = .ok (.ireturn, 1) := by decide +kernel
theorem d15_0 : decode B13' 0 = .ok (.new 50, 3) := by decide +kernel
theorem d15_3 : decode B13' 3 = .ok (.dup, 1) := by decide +kernel
theorem d15_4 : decode B13' 4 = .ok (.invokespecial 52, 3) := by decide +kernel
theorem d15_7 : decode B13' 7 = .ok (.ldc 53, 2) := by decide +kernel
theorem d15_9 : decode B13' 9 = .ok (.invokevirtual 55, 3) := by decide +kernel
theorem d15_12 : decode B13' 12 = .ok (.aload_n 0, 1) := by decide +kernel
theorem d15_13 : decode B13' 13 = .ok (.getfield 13, 3) := by decide +kernel
theorem d15_16 : decode B13' 16 = .ok (.invokeinterface 19 1, 5) := by decide +kernel
theorem d15_21 : decode B13' 21 = .ok (.invokevirtual 59, 3) := by decide +kernel
theorem d15_24 : decode B13' 24 = .ok (.ldc 62, 2) := by decide +kernel
theorem d15_26 : decode B13' 26 = .ok (.invokevirtual 55, 3) := by decide +kernel
theorem d15_29 : decode B13' 29 = .ok (.invokevirtual 64, 3) := by decide +kernel
theorem d15_32 : decode B13' 32 = .ok (.areturn, 1) := by decide +kernel
theorem d16_0 : decode B14' 0 = .ok (.aload_n 0, 1) := by decide +kernel
theorem d16_1 : decode B14' 1 = .ok (.bipush 16, 2) := by decide +kernel
theorem d16_3 : decode B14' 3 = .ok (.invokespecial 1, 3) := by decide +kernel
theorem d16_6 : decode B14' 6 = .ok (.return_, 1) := by decide +kernel
theorem d17_0 : decode B15' 0 = .ok (.aload_n 0, 1) := by decide +kernel
theorem d17_1 : decode B15' 1 = .ok (.invokespecial 3, 3) := by decide +kernel
theorem d17_4 : decode B15' 4 = .ok (.getstatic 18, 3) := by decide +kernel
theorem d17_7 : decode B15' 7 = .ok (.ifCond .eq 18, 3) := by decide +kernel
theorem d17_10 : decode B15' 10 = .ok (.aload_n 0, 1) := by decide +kernel
theorem d17_11 : decode B15' 11 = .ok (.iload_n 1, 1) := by decide +kernel
theorem d17_12 : decode B15' 12 = .ok (.newarray .byte, 2) := by decide +kernel
theorem d17_14 : decode B15' 14 = .ok (.putfield 15, 3) := by decide +kernel
theorem d17_17 : decode B15' 17 = .ok (.aload_n 0, 1) := by decide +kernel
theorem d17_18 : decode B15' 18 = .ok (.iconst 0, 1) := by decide +kernel
theorem d17_19 : decode B15' 19 = .ok (.putfield 22, 3) := by decide +kernel
theorem d17_22 : decode B15' 22 = .ok (.goto 16, 3) := by decide +kernel
theorem d17_38 : decode B15' 38 = .ok (.return_, 1) := by decide +kernel
theorem d18_0 : decode B16' 0 = .ok (.aload_n 0, 1) := by decide +kernel
theorem d18_1 : decode B16' 1 = .ok (.aload_n 1, 1) := by decide +kernel
theorem d18_2 : decode B16' 2 = .ok (.invokespecial 29, 3) := by decide +kernel
theorem d18_5 : decode B16' 5 = .ok (.pop, 1) := by decide +kernel
theorem d18_6 : decode B16' 6 = .ok (.aload_n 0, 1) := by decide +kernel
theorem d18_7 : decode B16' 7 = .ok (.areturn, 1) := by decide +kernel
theorem d19_0 : decode B17' 0 = .ok (.aload_n 1, 1) := by decide +kernel
theorem d19_1 : decode B17' 1 = .ok (.ifnonnull 8, 3) := by decide +kernel
theorem d19_9 : decode B17' 9 = .ok (.aload_n 1, 1) := by decide +kernel
theorem d19_10 : decode B17' 10 = .ok (.invokevirtual 32, 3) := by decide +kernel
theorem d19_13 : decode B17' 13 = .ok (.istore_n 2, 1) := by decide +kernel
theorem d19_14 : decode B17' 14 = .ok (.aload_n 0, 1) := by decide +kernel
theorem d19_15 : decode B17' 15 = .ok (.aload_n 0, 1) := by decide +kernel
theorem d19_16 : decode B17' 16 = .ok (.getfield 79, 3) := by decide +kernel
theorem d19_19 : decode B17' 19 = .ok (.iload_n 2, 1) := by decide +kernel
theorem d19_20 : decode B17' 20 = .ok (.iadd, 1) := by decide +kernel
theorem d19_21 : decode B17' 21 = .ok (.invokevirtual 100, 3) := by decide +kernel
theorem d19_24 : decode B17' 24 = .ok (.aload_n 0, 1) := by decide +kernel
theorem d19_25 : decode B17' 25 = .ok (.aload_n 0, 1) := by decide +kernel
theorem d19_26 : decode B17' 26 = .ok (.getfield 79, 3) := by decide +kernel
theorem d19_29 : decode B17' 29 = .ok (.aload_n 1, 1) := by decide +kernel
theorem d19_30 : decode B17' 30 = .ok (.invokevirtual 208, 3) := by decide +kernel
theorem d19_33 : decode B17' 33 = .ok (.aload_n 0, 1) := by decide +kernel
theorem d19_34 : decode B17' 34 = .ok (.dup, 1) := by decide +kernel
theorem d19_35 : decode B17' 35 = .ok (.getfield 79, 3) := by decide +kernel
theorem d19_38 : decode B17' 38 = .ok (.iload_n 2, 1) := by decide +kernel
theorem d19_39 : decode B17' 39 = .ok (.iadd, 1) := by decide +kernel
theorem d19_40 : decode B17' 40 = .ok (.putfield 79, 3) := by decide +kernel
theorem d19_43 : decode B17' 43 = .ok (.aload_n 0, 1) := by decide +kernel
theorem d19_44 : decode B17' 44 = .ok (.areturn, 1) := by decide +kernel
theorem d21_0 : decode B18' 0 = .ok (.getstatic 38, 3) := by decide +kernel
theorem d21_3 : decode B18' 3 = .ok (.ifCond .eq 10, 3) := by decide +kernel
theorem d21_6 : decode B18' 6 = .ok (.aload_n 0, 1) := by decide +kernel
theorem d21_7 : decode B18' 7 = .ok (.getfield 15, 3) := by decide +kernel
theorem d21_10 : decode B18' 10 = .ok (.goto 4, 3) := by decide +kernel
theorem d21_14 : decode B18' 14 = .ok (.ireturn, 1) := by decide +kernel
theorem d22_0 : decode B19' 0 = .ok (.aload_n 0, 1) := by decide +kernel
theorem d22_1 : decode B19' 1 = .ok (.getfield 15, 3) := by decide +kernel
theorem d22_4 : decode B19' 4 = .ok (.arraylength, 1) := by decide +kernel
theorem d22_5 : decode B19' 5 = .ok (.aload_n 0, 1) := by decide +kernel
theorem d22_6 : decode B19' 6 = .ok (.getfield 22, 3) := by decide +kernel
theorem d22_9 : decode B19' 9 = .ok (.ishr, 1) := by decide +kernel
theorem d22_10 : decode B19' 10 = .ok (.istore_n 2, 1) := by decide +kernel
theorem d22_11 : decode B19' 11 = .ok (.iload_n 1, 1) := by decide +kernel
theorem d22_12 : decode B19' 12 = .ok (.iload_n 2, 1) := by decide +kernel
theorem d22_13 : decode B19' 13 = .ok (.isub, 1) := by decide +kernel
theorem d22_14 : decode B19' 14 = .ok (.ifCond .le 24, 3) := by decide +kernel
theorem d22_17 : decode B19' 17 = .ok (.aload_n 0, 1) := by decide +kernel
theorem d22_18 : decode B19' 18 = .ok (.aload_n 0, 1) := by decide +kernel
theorem d22_19 : decode B19' 19 = .ok (.getfield 15, 3) := by decide +kernel
theorem d22_22 : decode B19' 22 = .ok (.aload_n 0, 1) := by decide +kernel
theorem d22_23 : decode B19' 23 = .ok (.iload_n 1, 1) := by decide +kernel
theorem d22_24 : decode B19' 24 = .ok (.invokevirtual 104, 3) := by decide +kernel
theorem d22_27 : decode B19' 27 = .ok (.aload_n 0, 1) := by decide +kernel
theorem d22_28 : decode B19' 28 = .ok (.getfield 22, 3) := by decide +kernel
theorem d22_31 : decode B19' 31 = .ok (.ishl, 1) := by decide +kernel
theorem d22_32 : decode B19' 32 = .ok (.invokestatic 108, 3) := by decide +kernel
theorem d22_35 : decode B19' 35 = .ok (.putfield 15, 3) := by decide +kernel
theorem d22_38 : decode B19' 38 = .ok (.return_, 1) := by decide +kernel
theorem d23_0 : decode B20' 0 = .ok (.aload_n 0, 1) := by decide +kernel
theorem d23_1 : decode B20' 1 = .ok (.aload_n 2, 1) := by decide +kernel
theorem d23_2 : decode B20' 2 = .ok (.invokevirtual 397, 3) := by decide +kernel
theorem d23_5 : decode B20' 5 = .ok (.aload_n 2, 1) := by decide +kernel
theorem d23_6 : decode B20' 6 = .ok (.aload_n 0, 1) := by decide +kernel
theorem d23_7 : decode B20' 7 = .ok (.getfield 15, 3) := by decide +kernel
theorem d23_10 : decode B20' 10 = .ok (.iload_n 1, 1) := by decide +kernel
theorem d23_11 : decode B20' 11 = .ok (.aload_n 0, 1) := by decide +kernel
theorem d23_12 : decode B20' 12 = .ok (.getfield 22, 3) := by decide +kernel
theorem d23_15 : decode B20' 15 = .ok (.invokevirtual 399, 3) := by decide +kernel
theorem d23_18 : decode B20' 18 = .ok (.return_, 1) := by decide +kernel
theorem d24_0 : decode B21' 0 = .ok (.getstatic 18, 3) := by decide +kernel
theorem d24_3 : decode B21' 3 = .ok (.ifCond .eq 18, 3) := by decide +kernel
theorem d24_6 : decode B21' 6 = .ok (.aload_n 0, 1) := by decide +kernel
theorem d24_7 : decode B21' 7 = .ok (.getfield 22, 3) := by decide +kernel
theorem d24_10 : decode B21' 10 = .ok (.aload_n 1, 1) := by decide +kernel
theorem d24_11 : decode B21' 11 = .ok (.invokevirtual 40, 3) := by decide +kernel
theorem d24_14 : decode B21' 14 = .ok (.if_icmp .eq 7, 3) := by decide +kernel
theorem d24_21 : decode B21' 21 = .ok (.return_, 1) := by decide +kernel
theorem d25_0 : decode B22' 0 = .ok (.aload_n 0, 1) := by decide +kernel
theorem d25_1 : decode B22' 1 = .ok (.invokevirtual 335, 3) := by decide +kernel
theorem d25_4 : decode B22' 4 = .ok (.iload_n 3, 1) := by decide +kernel
theorem d25_5 : decode B22' 5 = .ok (.if_icmp .ne 23, 3) := by decide +kernel
theorem d25_8 : decode B22' 8 = .ok (.aload_n 0, 1) := by decide +kernel
theorem d25_9 : decode B22' 9 = .ok (.getfield 9, 3) := by decide +kernel
theorem d25_12 : decode B22' 12 = .ok (.iconst 0, 1) := by decide +kernel
theorem d25_13 : decode B22' 13 = .ok (.aload_n 1, 1) := by decide +kernel
theorem d25_14 : decode B22' 14 = .ok (.iload_n 2, 1) := by decide +kernel
theorem d25_15 : decode B22' 15 = .ok (.iload_n 3, 1) := by decide +kernel
theorem d25_16 : decode B22' 16 = .ok (.ishl, 1) := by decide +kernel
theorem d25_17 : decode B22' 17 = .ok (.aload_n 0, 1) := by decide +kernel
theorem d25_18 : decode B22' 18 = .ok (.getfield 9, 3) := by decide +kernel
theorem d25_21 : decode B22' 21 = .ok (.arraylength, 1) := by decide +kernel
theorem d25_22 : decode B22' 22 = .ok (.invokestatic 212, 3) := by decide +kernel
theorem d25_25 : decode B22' 25 = .ok (.goto 18, 3) := by decide +kernel
theorem d25_43 : decode B22' 43 = .ok (.return_, 1) := by decide +kernel
theorem d26_0 : decode B23' 0 = .ok (.aload_n 0, 1) := by decide +kernel
theorem d26_1 : decode B23' 1 = .ok (.getfield 7, 3) := by decide +kernel
theorem d26_4 : decode B23' 4 = .ok (.arraylength, 1) := by decide +kernel
theorem d26_5 : decode B23' 5 = .ok (.ireturn, 1) := by decide +kernel
theorem d27_0 : decode B24' 0 = .ok (.aload_n 0, 1) := by decide +kernel
theorem d27_1 : decode B24' 1 = .ok (.iload_n 1, 1) := by decide +kernel
theorem d27_2 : decode B24' 2 = .ok (.invokespecial 53, 3) := by decide +kernel
theorem d27_5 : decode B24' 5 = .ok (.pop, 1) := by decide +kernel
theorem d27_6 : decode B24' 6 = .ok (.aload_n 0, 1) := by decide +kernel
theorem d27_7 : decode B24' 7 = .ok (.areturn, 1) := by decide +kernel
theorem d28_0 : decode B25' 0 = .ok (.aload_n 0, 1) := by decide +kernel
theorem d28_1 : decode B25' 1 = .ok (.getfield 79, 3) := by decide +kernel
theorem d28_4 : decode B25' 4 = .ok (.istore_n 2, 1) := by decide +kernel
theorem d28_5 : decode B25' 5 = .ok (.iload_n 2, 1) := by decide +kernel
theorem d28_6 : decode B25' 6 = .ok (.iload_n 1, 1) := by decide +kernel
theorem d28_7 : decode B25' 7 = .ok (.invokestatic 245, 3) := by decide +kernel
theorem d28_10 : decode B25' 10 = .ok (.iadd, 1) := by decide +kernel
theorem d28_11 : decode B25' 11 = .ok (.istore_n 3, 1) := by decide +kernel
theorem d28_12 : decode B25' 12 = .ok (.aload_n 0, 1) := by decide +kernel
theorem d28_13 : decode B25' 13 = .ok (.iload_n 3, 1) := by decide +kernel
theorem d28_14 : decode B25' 14 = .ok (.invokevirtual 100, 3) := by decide +kernel
theorem d28_17 : decode B25' 17 = .ok (.aload_n 0, 1) := by decide +kernel
theorem d28_18 : decode B25' 18 = .ok (.invokevirtual 83, 3) := by decide +kernel
theorem d28_21 : decode B25' 21 = .ok (.ifCond .eq 16, 3) := by decide +kernel
theorem d28_24 : decode B25' 24 = .ok (.iload_n 1, 1) := by decide +kernel
theorem d28_25 : decode B25' 25 = .ok (.iload_n 3, 1) := by decide +kernel
theorem d28_26 : decode B25' 26 = .ok (.aload_n 0, 1) := by decide +kernel
theorem d28_27 : decode B25' 27 = .ok (.getfield 15, 3) := by decide +kernel
theorem d28_30 : decode B25' 30 = .ok (.invokestatic 248, 3) := by decide +kernel
theorem d28_33 : decode B25' 33 = .ok (.pop, 1) := by decide +kernel
theorem d28_34 : decode B25' 34 = .ok (.goto 14, 3) := by decide +kernel
theorem d28_48 : decode B25' 48 = .ok (.aload_n 0, 1) := by decide +kernel
theorem d28_49 : decode B25' 49 = .ok (.iload_n 3, 1) := by decide +kernel
theorem d28_50 : decode B25' 50 = .ok (.putfield 79, 3) := by decide +kernel
theorem d28_53 : decode B25' 53 = .ok (.aload_n 0, 1) := by decide +kernel
theorem d28_54 : decode B25' 54 = .ok (.areturn, 1) := by decide +kernel
theorem d29_0 : decode B26' 0 = .ok (.iconst 1, 1) := by decide +kernel
theorem d29_1 : decode B26' 1 = .ok (.istore_n 1, 1) := by decide +kernel
theorem d29_2 : decode B26' 2 = .ok (.iload_n 0, 1) := by decide +kernel
theorem d29_3 : decode B26' 3 = .ok (.ifCond .lt 8, 3) := by decide +kernel
theorem d29_6 : decode B26' 6 = .ok (.iconst 0, 1) := by decide +kernel
theorem d29_7 : decode B26' 7 = .ok (.istore_n 1, 1) := by decide +kernel
theorem d29_8 : decode B26' 8 = .ok (.iload_n 0, 1) := by decide +kernel
theorem d29_9 : decode B26' 9 = .ok (.ineg, 1) := by decide +kernel
theorem d29_10 : decode B26' 10 = .ok (.istore_n 0, 1) := by decide +kernel
theorem d29_11 : decode B26' 11 = .ok (.bipush (-10), 2) := by decide +kernel
theorem d29_13 : decode B26' 13 = .ok (.istore_n 2, 1) := by decide +kernel
theorem d29_14 : decode B26' 14 = .ok (.iconst 1, 1) := by decide +kernel
theorem d29_15 : decode B26' 15 = .ok (.istore_n 3, 1) := by decide +kernel
theorem d29_16 : decode B26' 16 = .ok (.iload_n 3, 1) := by decide +kernel
theorem d29_17 : decode B26' 17 = .ok (.bipush 10, 2) := by decide +kernel
theorem d29_19 : decode B26' 19 = .ok (.if_icmp .ge 23, 3) := by decide +kernel
theorem d29_22 : decode B26' 22 = .ok (.iload_n 0, 1) := by decide +kernel
theorem d29_23 : decode B26' 23 = .ok (.iload_n 2, 1) := by decide +kernel
theorem d29_24 : decode B26' 24 = .ok (.if_icmp .le 7, 3) := by decide +kernel
theorem d29_27 : decode B26' 27 = .ok (.iload_n 3, 1) := by decide +kernel
theorem d29_28 : decode B26' 28 = .ok (.iload_n 1, 1) := by decide +kernel
theorem d29_29 : decode B26' 29 = .ok (.iadd, 1) := by decide +kernel
theorem d29_30 : decode B26' 30 = .ok (.ireturn, 1) := by decide +kernel
theorem d30_0 : decode B27' 0 = .ok (.getstatic 18, 3) := by decide +kernel
theorem d30_3 : decode B27' 3 = .ok (.ifCond .eq 14, 3) := by decide +kernel
theorem d30_6 : decode B27' 6 = .ok (.aload_n 0, 1) := by decide +kernel
theorem d30_7 : decode B27' 7 = .ok (.getfield 22, 3) := by decide +kernel
theorem d30_10 : decode B27' 10 = .ok (.ifCond .ne 7, 3) := by decide +kernel
theorem d30_13 : decode B27' 13 = .ok (.iconst 1, 1) := by decide +kernel
theorem d30_14 : decode B27' 14 = .ok (.goto 4, 3) := by decide +kernel
theorem d30_18 : decode B27' 18 = .ok (.ireturn, 1) := by decide +kernel
theorem d31_0 : decode B28' 0 = .ok (.iload_n 1, 1) := by decide +kernel
theorem d31_1 : decode B28' 1 = .ok (.istore 5, 2) := by decide +kernel
theorem d31_3 : decode B28' 3 = .ok (.iload_n 0, 1) := by decide +kernel
theorem d31_4 : decode B28' 4 = .ok (.ifCond .ge 7, 3) := by decide +kernel
theorem d31_11 : decode B28' 11 = .ok (.iconst 0, 1) := by decide +kernel
theorem d31_12 : decode B28' 12 = .ok (.istore 6, 2) := by decide +kernel
theorem d31_14 : decode B28' 14 = .ok (.iload 6, 2) := by decide +kernel
theorem d31_16 : decode B28' 16 = .ok (.ifCond .ne 6, 3) := by decide +kernel
theorem d31_19 : decode B28' 19 = .ok (.iload_n 0, 1) := by decide +kernel
theorem d31_20 : decode B28' 20 = .ok (.ineg, 1) := by decide +kernel
theorem d31_21 : decode B28' 21 = .ok (.istore_n 0, 1) := by decide +kernel
theorem d31_22 : decode B28' 22 = .ok (.iload_n 0, 1) := by decide +kernel
theorem d31_23 : decode B28' 23 = .ok (.bipush (-100), 2) := by decide +kernel
theorem d31_25 : decode B28' 25 = .ok (.if_icmp .gt 47, 3) := by decide +kernel
theorem d31_72 : decode B28' 72 = .ok (.aload_n 2, 1) := by decide +kernel
theorem d31_73 : decode B28' 73 = .ok (.iinc 5 (-1), 3) := by decide +kernel
theorem d31_76 : decode B28' 76 = .ok (.iload 5, 2) := by decide +kernel
theorem d31_78 : decode B28' 78 = .ok (.getstatic 83, 3) := by decide +kernel
theorem d31_81 : decode B28' 81 = .ok (.iload_n 0, 1) := by decide +kernel
theorem d31_82 : decode B28' 82 = .ok (.ineg, 1) := by decide +kernel
theorem d31_83 : decode B28' 83 = .ok (.baload, 1) := by decide +kernel
theorem d31_84 : decode B28' 84 = .ok (.bastore, 1) := by decide +kernel
theorem d31_85 : decode B28' 85 = .ok (.iload_n 0, 1) := by decide +kernel
theorem d31_86 : decode B28' 86 = .ok (.bipush (-9), 2) := by decide +kernel
theorem d31_88 : decode B28' 88 = .ok (.if_icmp .ge 16, 3) := by decide +kernel
theorem d31_104 : decode B28' 104 = .ok (.iload 6, 2) := by decide +kernel
theorem d31_106 : decode B28' 106 = .ok (.ifCond .eq 12, 3) := by decide +kernel
theorem d31_118 : decode B28' 118 = .ok (.iload 5, 2) := by decide +kernel
theorem d31_120 : decode B28' 120 = .ok (.ireturn, 1) := by decide +kernel
theorem d32_0 : decode B29' 0 = .ok (.aload_n 0, 1) := by decide +kernel
theorem d32_1 : decode B29' 1 = .ok (.getfield 15, 3) := by decide +kernel
theorem d32_4 : decode B29' 4 = .ok (.arraylength, 1) := by decide +kernel
theorem d32_5 : decode B29' 5 = .ok (.istore_n 2, 1) := by decide +kernel
theorem d32_6 : decode B29' 6 = .ok (.iload_n 1, 1) := by decide +kernel
theorem d32_7 : decode B29' 7 = .ok (.aload_n 0, 1) := by decide +kernel
theorem d32_8 : decode B29' 8 = .ok (.getfield 22, 3) := by decide +kernel
theorem d32_11 : decode B29' 11 = .ok (.ishl, 1) := by decide +kernel
theorem d32_12 : decode B29' 12 = .ok (.istore_n 3, 1) := by decide +kernel
theorem d32_13 : decode B29' 13 = .ok (.iload_n 3, 1) := by decide +kernel
theorem d32_14 : decode B29' 14 = .ok (.iload_n 2, 1) := by decide +kernel
theorem d32_15 : decode B29' 15 = .ok (.isub, 1) := by decide +kernel
theorem d32_16 : decode B29' 16 = .ok (.istore 4, 2) := by decide +kernel
theorem d32_18 : decode B29' 18 = .ok (.iload_n 2, 1) := by decide +kernel
theorem d32_19 : decode B29' 19 = .ok (.iload 4, 2) := by decide +kernel
theorem d32_21 : decode B29' 21 = .ok (.iload_n 2, 1) := by decide +kernel
theorem d32_22 : decode B29' 22 = .ok (.iconst 2, 1) := by decide +kernel
theorem d32_23 : decode B29' 23 = .ok (.aload_n 0, 1) := by decide +kernel
theorem d32_24 : decode B29' 24 = .ok (.getfield 22, 3) := by decide +kernel
theorem d32_27 : decode B29' 27 = .ok (.ishl, 1) := by decide +kernel
theorem d32_28 : decode B29' 28 = .ok (.iadd, 1) := by decide +kernel
theorem d32_29 : decode B29' 29 = .ok (.invokestatic 114, 3) := by decide +kernel
theorem d32_32 : decode B29' 32 = .ok (.istore 5, 2) := by decide +kernel
theorem d32_34 : decode B29' 34 = .ok (.iload 5, 2) := by decide +kernel
theorem d32_36 : decode B29' 36 = .ok (.ldc 39, 2) := by decide +kernel
theorem d32_38 : decode B29' 38 = .ok (.if_icmp .ne 13, 3) := by decide +kernel
theorem d32_51 : decode B29' 51 = .ok (.iload 5, 2) := by decide +kernel
theorem d32_53 : decode B29' 53 = .ok (.aload_n 0, 1) := by decide +kernel
theorem d32_54 : decode B29' 54 = .ok (.getfield 22, 3) := by decide +kernel
theorem d32_57 : decode B29' 57 = .ok (.ishr, 1) := by decide +kernel
theorem d32_58 : decode B29' 58 = .ok (.ireturn, 1) := by decide +kernel
theorem d33_0 : decode B30' 0 = .ok (.iload_n 0, 1) := by decide +kernel
theorem d33_1 : decode B30' 1 = .ok (.iload_n 1, 1) := by decide +kernel
theorem d33_2 : decode B30' 2 = .ok (.iload_n 2, 1) := by decide +kernel
theorem d33_3 : decode B30' 3 = .ok (.invokestatic 194, 3) := by decide +kernel
theorem d33_6 : decode B30' 6 = .ok (.iadd, 1) := by decide +kernel
theorem d33_7 : decode B30' 7 = .ok (.istore_n 3, 1) := by decide +kernel
theorem d33_8 : decode B30' 8 = .ok (.iconst 0, 1) := by decide +kernel
theorem d33_9 : decode B30' 9 = .ok (.iload_n 3, 1) := by decide +kernel
theorem d33_10 : decode B30' 10 = .ok (.if_icmp .ge 11, 3) := by decide +kernel
theorem d33_13 : decode B30' 13 = .ok (.iload_n 3, 1) := by decide +kernel
theorem d33_14 : decode B30' 14 = .ok (.ldc 200, 2) := by decide +kernel
theorem d33_16 : decode B30' 16 = .ok (.if_icmp .gt 5, 3) := by decide +kernel
theorem d33_19 : decode B30' 19 = .ok (.iload_n 3, 1) := by decide +kernel
theorem d33_20 : decode B30' 20 = .ok (.ireturn, 1) := by decide +kernel
theorem d34_0 : decode B31' 0 = .ok (.iload_n 1, 1) := by decide +kernel
theorem d34_1 : decode B31' 1 = .ok (.aload_n 0, 1) := by decide +kernel
theorem d34_2 : decode B31' 2 = .ok (.arraylength, 1) := by decide +kernel
theorem d34_3 : decode B31' 3 = .ok (.if_icmp .ne 11, 3) := by decide +kernel
theorem d34_14 : decode B31' 14 = .ok (.iload_n 1, 1) := by decide +kernel
theorem d34_15 : decode B31' 15 = .ok (.newarray .byte, 2) := by decide +kernel
theorem d34_17 : decode B31' 17 = .ok (.astore_n 2, 1) := by decide +kernel
theorem d34_18 : decode B31' 18 = .ok (.aload_n 0, 1) := by decide +kernel
theorem d34_19 : decode B31' 19 = .ok (.iconst 0, 1) := by decide +kernel
theorem d34_20 : decode B31' 20 = .ok (.aload_n 2, 1) := by decide +kernel
theorem d34_21 : decode B31' 21 = .ok (.iconst 0, 1) := by decide +kernel
theorem d34_22 : decode B31' 22 = .ok (.aload_n 0, 1) := by decide +kernel
theorem d34_23 : decode B31' 23 = .ok (.arraylength, 1) := by decide +kernel
theorem d34_24 : decode B31' 24 = .ok (.iload_n 1, 1) := by decide +kernel
theorem d34_25 : decode B31' 25 = .ok (.invokestatic 304, 3) := by decide +kernel
theorem d34_28 : decode B31' 28 = .ok (.invokestatic 150, 3) := by decide +kernel
theorem d34_31 : decode B31' 31 = .ok (.aload_n 2, 1) := by decide +kernel
theorem d34_32 : decode B31' 32 = .ok (.areturn, 1) := by decide +kernel
theorem d35_0 : decode B32' 0 = .ok (.iload_n 0, 1) := by decide +kernel
theorem d35_1 : decode B32' 1 = .ok (.iload_n 1, 1) := by decide +kernel
theorem d35_2 : decode B32' 2 = .ok (.if_icmp .gt 7, 3) := by decide +kernel
theorem d35_5 : decode B32' 5 = .ok (.iload_n 0, 1) := by decide +kernel
theorem d35_6 : decode B32' 6 = .ok (.goto 4, 3) := by decide +kernel
theorem d35_9 : decode B32' 9 = .ok (.iload_n 1, 1) := by decide +kernel
theorem d35_10 : decode B32' 10 = .ok (.ireturn, 1) := by decide +kernel
theorem d36_0 : decode B33' 0 = .ok (.new 18, 3) := by decide +kernel
theorem d36_3 : decode B33' 3 = .ok (.dup, 1) := by decide +kernel
theorem d36_4 : decode B33' 4 = .ok (.aload_n 0, 1) := by decide +kernel
theorem d36_5 : decode B33' 5 = .ok (.invokespecial 137, 3) := by decide +kernel
theorem d36_8 : decode B33' 8 = .ok (.areturn, 1) := by decide +kernel
theorem d37_0 : decode B34' 0 = .ok (.aload_n 0, 1) := by decide +kernel
theorem d37_1 : decode B34' 1 = .ok (.aload_n 1, 1) := by decide +kernel
theorem d37_2 : decode B34' 2 = .ok (.aconst_null, 1) := by decide +kernel
theorem d37_3 : decode B34' 3 = .ok (.invokespecial 489, 3) := by decide +kernel
theorem d37_6 : decode B34' 6 = .ok (.return_, 1) := by decide +kernel
theorem d38_0 : decode B35' 0 = .ok (.aload_n 0, 1) := by decide +kernel
theorem d38_1 : decode B35' 1 = .ok (.invokespecial 1, 3) := by decide +kernel
theorem d38_4 : decode B35' 4 = .ok (.aload_n 1, 1) := by decide +kernel
theorem d38_5 : decode B35' 5 = .ok (.invokevirtual 552, 3) := by decide +kernel
theorem d38_8 : decode B35' 8 = .ok (.astore_n 3, 1) := by decide +kernel
theorem d38_9 : decode B35' 9 = .ok (.aload_n 1, 1) := by decide +kernel
theorem d38_10 : decode B35' 10 = .ok (.invokevirtual 549, 3) := by decide +kernel
theorem d38_13 : decode B35' 13 = .ok (.istore 4, 2) := by decide +kernel
theorem d38_15 : decode B35' 15 = .ok (.aload_n 1, 1) := by decide +kernel
theorem d38_16 : decode B35' 16 = .ok (.invokevirtual 1047, 3) := by decide +kernel
theorem d38_19 : decode B35' 19 = .ok (.ifCond .eq 22, 3) := by decide +kernel
theorem d38_22 : decode B35' 22 = .ok (.aload_n 0, 1) := by decide +kernel
theorem d38_23 : decode B35' 23 = .ok (.iconst 0, 1) := by decide +kernel
theorem d38_24 : decode B35' 24 = .ok (.putfield 15, 3) := by decide +kernel
theorem d38_27 : decode B35' 27 = .ok (.aload_n 0, 1) := by decide +kernel
theorem d38_28 : decode B35' 28 = .ok (.aload_n 3, 1) := by decide +kernel
theorem d38_29 : decode B35' 29 = .ok (.iconst 0, 1) := by decide +kernel
theorem d38_30 : decode B35' 30 = .ok (.iload 4, 2) := by decide +kernel
theorem d38_32 : decode B35' 32 = .ok (.invokestatic 54, 3) := by decide +kernel
theorem d38_35 : decode B35' 35 = .ok (.putfield 9, 3) := by decide +kernel
theorem d38_38 : decode B35' 38 = .ok (.goto 59, 3) := by decide +kernel
theorem d38_97 : decode B35' 97 = .ok (.return_, 1) := by decide +kernel
theorem d39_0 : decode B36' 0 = .ok (.aload_n 0, 1) := by decide +kernel
theorem d39_1 : decode B36' 1 = .ok (.getfield 15, 3) := by decide +kernel
theorem d39_4 : decode B36' 4 = .ok (.areturn, 1) := by decide +kernel
theorem d40_0 : decode B37' 0 = .ok (.aload_n 0, 1) := by decide +kernel
theorem d40_1 : decode B37' 1 = .ok (.invokespecial 343, 3) := by decide +kernel
theorem d40_4 : decode B37' 4 = .ok (.ireturn, 1) := by decide +kernel
theorem d41_0 : decode B38' 0 = .ok (.aload_n 0, 1) := by decide +kernel
theorem d41_1 : decode B38' 1 = .ok (.getfield 79, 3) := by decide +kernel
theorem d41_4 : decode B38' 4 = .ok (.ireturn, 1) := by decide +kernel
theorem d42_0 : decode B39' 0 = .ok (.iload_n 1, 1) := by decide +kernel
theorem d42_1 : decode B39' 1 = .ok (.ifCond .ne 9, 3) := by decide +kernel
theorem d42_4 : decode B39' 4 = .ok (.iload_n 2, 1) := by decide +kernel
theorem d42_5 : decode B39' 5 = .ok (.aload_n 0, 1) := by decide +kernel
theorem d42_6 : decode B39' 6 = .ok (.arraylength, 1) := by decide +kernel
theorem d42_7 : decode B39' 7 = .ok (.if_icmp .eq 10, 3) := by decide +kernel
theorem d42_10 : decode B39' 10 = .ok (.aload_n 0, 1) := by decide +kernel
theorem d42_11 : decode B39' 11 = .ok (.iload_n 1, 1) := by decide +kernel
theorem d42_12 : decode B39' 12 = .ok (.iload_n 2, 1) := by decide +kernel
theorem d42_13 : decode B39' 13 = .ok (.invokestatic 339, 3) := by decide +kernel
theorem d42_16 : decode B39' 16 = .ok (.areturn, 1) := by decide +kernel
theorem d43_0 : decode B40' 0 = .ok (.iload_n 1, 1) := by decide +kernel
theorem d43_1 : decode B40' 1 = .ok (.iload_n 2, 1) := by decide +kernel
theorem d43_2 : decode B40' 2 = .ok (.invokestatic 343, 3) := by decide +kernel
theorem d43_5 : decode B40' 5 = .ok (.iload_n 2, 1) := by decide +kernel
theorem d43_6 : decode B40' 6 = .ok (.iload_n 1, 1) := by decide +kernel
theorem d43_7 : decode B40' 7 = .ok (.isub, 1) := by decide +kernel
theorem d43_8 : decode B40' 8 = .ok (.istore_n 3, 1) := by decide +kernel
theorem d43_9 : decode B40' 9 = .ok (.iload_n 3, 1) := by decide +kernel
theorem d43_10 : decode B40' 10 = .ok (.newarray .byte, 2) := by decide +kernel
theorem d43_12 : decode B40' 12 = .ok (.astore 4, 2) := by decide +kernel
theorem d43_14 : decode B40' 14 = .ok (.aload_n 0, 1) := by decide +kernel
theorem d43_15 : decode B40' 15 = .ok (.iload_n 1, 1) := by decide +kernel
theorem d43_16 : decode B40' 16 = .ok (.aload 4, 2) := by decide +kernel
theorem d43_18 : decode B40' 18 = .ok (.iconst 0, 1) := by decide +kernel
theorem d43_19 : decode B40' 19 = .ok (.aload_n 0, 1) := by decide +kernel
theorem d43_20 : decode B40' 20 = .ok (.arraylength, 1) := by decide +kernel
theorem d43_21 : decode B40' 21 = .ok (.iload_n 1, 1) := by decide +kernel
theorem d43_22 : decode B40' 22 = .ok (.isub, 1) := by decide +kernel
theorem d43_23 : decode B40' 23 = .ok (.iload_n 3, 1) := by decide +kernel
theorem d43_24 : decode B40' 24 = .ok (.invokestatic 304, 3) := by decide +kernel
theorem d43_27 : decode B40' 27 = .ok (.invokestatic 150, 3) := by decide +kernel
theorem d43_30 : decode B40' 30 = .ok (.aload 4, 2) := by decide +kernel
theorem d43_32 : decode B40' 32 = .ok (.areturn, 1) := by decide +kernel
theorem d44_0 : decode B41' 0 = .ok (.iload_n 1, 1) := by decide +kernel
theorem d44_1 : decode B41' 1 = .ok (.iload_n 0, 1) := by decide +kernel
theorem d44_2 : decode B41' 2 = .ok (.if_icmp .ge 35, 3) := by decide +kernel
theorem d44_37 : decode B41' 37 = .ok (.return_, 1) := by decide +kernel
theorem d53_0 : decode B42' 0 = .ok (.aload_n 0, 1) := by decide +kernel
theorem d53_1 : decode B42' 1 = .ok (.iload_n 1, 1) := by decide +kernel
theorem d53_2 : decode B42' 2 = .ok (.aload_n 0, 1) := by decide +kernel
theorem d53_3 : decode B42' 3 = .ok (.invokevirtual 86, 3) := by decide +kernel
theorem d53_6 : decode B42' 6 = .ok (.invokestatic 300, 3) := by decide +kernel
theorem d53_9 : decode B42' 9 = .ok (.areturn, 1) := by decide +kernel
theorem d54_0 : decode B43' 0 = .ok (.aload_n 2, 1) := by decide +kernel
theorem d54_1 : decode B43' 1 = .ok (.ldc 110, 2) := by decide +kernel
theorem d54_3 : decode B43' 3 = .ok (.if_acmp .ne 10, 3) := by decide +kernel
theorem d54_6 : decode B43' 6 = .ok (.iload_n 1, 1) := by decide +kernel
theorem d54_7 : decode B43' 7 = .ok (.anewarray 2, 3) := by decide +kernel
theorem d54_10 : decode B43' 10 = .ok (.goto 14, 3) := by decide +kernel
theorem d54_24 : decode B43' 24 = .ok (.astore_n 3, 1) := by decide +kernel
theorem d54_25 : decode B43' 25 = .ok (.aload_n 0, 1) := by decide +kernel
theorem d54_26 : decode B43' 26 = .ok (.iconst 0, 1) := by decide +kernel
theorem d54_27 : decode B43' 27 = .ok (.aload_n 3, 1) := by decide +kernel
theorem d54_28 : decode B43' 28 = .ok (.iconst 0, 1) := by decide +kernel
theorem d54_29 : decode B43' 29 = .ok (.aload_n 0, 1) := by decide +kernel
theorem d54_30 : decode B43' 30 = .ok (.arraylength, 1) := by decide +kernel
theorem d54_31 : decode B43' 31 = .ok (.iload_n 1, 1) := by decide +kernel
theorem d54_32 : decode B43' 32 = .ok (.invokestatic 304, 3) := by decide +kernel
theorem d54_35 : decode B43' 35 = .ok (.invokestatic 150, 3) := by decide +kernel
theorem d54_38 : decode B43' 38 = .ok (.aload_n 3, 1) := by decide +kernel
theorem d54_39 : decode B43' 39 = .ok (.areturn, 1) := by decide +kernel
theorem d62_0 : decode B44' 0 = .ok (.aload_n 0, 1) := by decide +kernel
theorem d62_1 : decode B44' 1 = .ok (.getfield 24, 3) := by decide +kernel
theorem d62_4 : decode B44' 4 = .ok (.getstatic 19, 3) := by decide +kernel
theorem d62_7 : decode B44' 7 = .ok (.if_acmp .eq 7, 3) := by decide +kernel
theorem d62_10 : decode B44' 10 = .ok (.iconst 2, 1) := by decide +kernel
theorem d62_11 : decode B44' 11 = .ok (.goto 4, 3) := by decide +kernel
theorem d62_14 : decode B44' 14 = .ok (.iconst 1, 1) := by decide +kernel
theorem d62_15 : decode B44' 15 = .ok (.ireturn, 1) := by decide +kernel
theorem pd_0 : parseMethodDescriptor "(I)V" = some ⟨[.int], none⟩ := by decide +kernel
theorem pd_1 : parseMethodDescriptor "()V" = some ⟨[], none⟩ := by decide +kernel
theorem pd_2 : parseMethodDescriptor "()B" = some ⟨[], some .byte⟩ := by decide +kernel
theorem pd_3 : parseMethodDescriptor "(Ljava/lang/String;)V" = some ⟨[(.object "java/lang/String")], none⟩ := by decide +kernel
theorem pd_4 : parseMethodDescriptor "([BIB)V" = some ⟨[(.array .byte), .int, .byte], none⟩ := by decide +kernel
theorem pd_5 : parseMethodDescriptor "(ILjava/lang/String;)V" = some ⟨[.int, (.object "java/lang/String")], none⟩ := by decide +kernel
theorem pd_6 : parseMethodDescriptor "(Ljava/lang/String;)Ljava/lang/AbstractStringBuilder;" = some ⟨[(.object "java/lang/String")], some (.object "java/lang/AbstractStringBuilder")⟩ := by decide +kernel
theorem pd_7 : parseMethodDescriptor "(Ljava/lang/String;)Ljava/lang/StringBuilder;" = some ⟨[(.object "java/lang/String")], some (.object "java/lang/StringBuilder")⟩ := by decide +kernel
theorem pd_8 : parseMethodDescriptor "(I)I" = some ⟨[.int], some .int⟩ := by decide +kernel
theorem pd_9 : parseMethodDescriptor "()Z" = some ⟨[], some .boolean⟩ := by decide +kernel
theorem pd_10 : parseMethodDescriptor "(II[B)I" = some ⟨[.int, .int, (.array .byte)], some .int⟩ := by decide +kernel
theorem pd_11 : parseMethodDescriptor "(I)Ljava/lang/AbstractStringBuilder;" = some ⟨[.int], some (.object "java/lang/AbstractStringBuilder")⟩ := by decide +kernel
theorem pd_12 : parseMethodDescriptor "(I)Ljava/lang/StringBuilder;" = some ⟨[.int], some (.object "java/lang/StringBuilder")⟩ := by decide +kernel
theorem pd_13 : parseMethodDescriptor "(II)I" = some ⟨[.int, .int], some .int⟩ := by decide +kernel
theorem pd_14 : parseMethodDescriptor "(III)I" = some ⟨[.int, .int, .int], some .int⟩ := by decide +kernel
theorem pd_15 : parseMethodDescriptor "([BI)[B" = some ⟨[(.array .byte), .int], some (.array .byte)⟩ := by decide +kernel
theorem pd_16 : parseMethodDescriptor "()[B" = some ⟨[], some (.array .byte)⟩ := by decide +kernel
theorem pd_17 : parseMethodDescriptor "()I" = some ⟨[], some .int⟩ := by decide +kernel
theorem pd_18 : parseMethodDescriptor "(II)V" = some ⟨[.int, .int], none⟩ := by decide +kernel
theorem pd_19 : parseMethodDescriptor "([BII)[B" = some ⟨[(.array .byte), .int, .int], some (.array .byte)⟩ := by decide +kernel
theorem pd_20 : parseMethodDescriptor "(Ljava/lang/AbstractStringBuilder;Ljava/lang/Void;)V" = some ⟨[(.object "java/lang/AbstractStringBuilder"), (.object "java/lang/Void")], none⟩ := by decide +kernel
theorem pd_21 : parseMethodDescriptor "(Ljava/lang/StringBuilder;)V" = some ⟨[(.object "java/lang/StringBuilder")], none⟩ := by decide +kernel
theorem pd_22 : parseMethodDescriptor "()Ljava/lang/String;" = some ⟨[], some (.object "java/lang/String")⟩ := by decide +kernel
theorem pd_23 : parseMethodDescriptor "([C)V" = some ⟨[(.array .char)], none⟩ := by decide +kernel
theorem pd_24 : parseMethodDescriptor "(Ljava/lang/Object;)Z" = some ⟨[(.object "java/lang/Object")], some .boolean⟩ := by decide +kernel
theorem pd_25 : parseMethodDescriptor "()Ljava/util/List;" = some ⟨[], some (.object "java/util/List")⟩ := by decide +kernel
theorem pd_26 : parseMethodDescriptor "(Ljava/util/Collection;)Ljava/util/List;" = some ⟨[(.object "java/util/Collection")], some (.object "java/util/List")⟩ := by decide +kernel
theorem pd_27 : parseMethodDescriptor "(Ljava/util/List;)V" = some ⟨[(.object "java/util/List")], none⟩ := by decide +kernel
theorem pd_28 : parseMethodDescriptor "(I)[Ljava/lang/Object;" = some ⟨[.int], some (.array (.object "java/lang/Object"))⟩ := by decide +kernel
theorem pd_29 : parseMethodDescriptor "()[Ljava/lang/Object;" = some ⟨[], some (.array (.object "java/lang/Object"))⟩ := by decide +kernel
theorem pd_30 : parseMethodDescriptor "(Ljava/lang/Object;[Ljava/lang/Object;I)V" = some ⟨[(.object "java/lang/Object"), (.array (.object "java/lang/Object")), .int], none⟩ := by decide +kernel
theorem pd_31 : parseMethodDescriptor "([Ljava/lang/Object;ILjava/lang/Class;)[Ljava/lang/Object;" = some ⟨[(.array (.object "java/lang/Object")), .int, (.object "java/lang/Class")], some (.array (.object "java/lang/Object"))⟩ := by decide +kernel
theorem pd_32 : parseMethodDescriptor "([Ljava/lang/Object;I)[Ljava/lang/Object;" = some ⟨[(.array (.object "java/lang/Object")), .int], some (.array (.object "java/lang/Object"))⟩ := by decide +kernel
theorem pn_0 : plainName "java/util/ImmutableCollections$ListN" = true := by first | (simp [plainName, overriddenIn]; done) | decide +kernel
theorem pn_1 : plainName "java/util/ImmutableCollections$List12" = true := by first | (simp [plainName, overriddenIn]; done) | decide +kernel
theorem pn_2 : plainName "java/lang/AbstractStringBuilder" = true := by first | (simp [plainName, overriddenIn]; done) | decide +kernel
theorem pn_3 : plainName "java/lang/StringBuilder" = true := by first | (simp [plainName, overriddenIn]; done) | decide +kernel
theorem pn_4 : plainName "java/lang/String" = true := by first | (simp [plainName, overriddenIn]; done) | decide +kernel
theorem pn_5 : plainName "java/lang/Integer" = true := by first | (simp [plainName, overriddenIn]; done) | decide +kernel
theorem pn_6 : plainName "jdk/internal/util/ArraysSupport" = true := by first | (simp [plainName, overriddenIn]; done) | decide +kernel
theorem pn_7 : plainName "java/util/Arrays" = true := by first | (simp [plainName, overriddenIn]; done) | decide +kernel
theorem pn_8 : plainName "com/example/interplay/interplay/history/Group" = true := by first | (simp [plainName, overriddenIn]; done) | decide +kernel
theorem pn_9 : plainName "java/util/AbstractCollection" = true := by first | (simp [plainName, overriddenIn]; done) | decide +kernel
theorem pn_10 : plainName "java/util/AbstractList" = true := by first | (simp [plainName, overriddenIn]; done) | decide +kernel
theorem pn_11 : plainName "java/util/ArrayList" = true := by first | (simp [plainName, overriddenIn]; done) | decide +kernel
theorem pn_12 : plainName "java/util/List" = true := by first | (simp [plainName, overriddenIn]; done) | decide +kernel
theorem pn_13 : plainName "java/util/ImmutableCollections" = true := by first | (simp [plainName, overriddenIn]; done) | decide +kernel
theorem pn_14 : plainName "com/example/interplay/interplay/history/GroupToStringPinLaw" = true := by first | (simp [plainName, overriddenIn]; done) | decide +kernel
theorem ef_26_1 (m : MethodId) (x0 : Addr) : entryFrame m #[(.ref x0)] 1 = mkF m 0 #[vR x0] [] := by first | (simp [entryFrame, mkF, argsToLocals, Value.category]; done) | rfl
theorem ef_17_6 (m : MethodId) (x0 : Addr) : entryFrame m #[(.ref x0), (.int (16 : Int32))] 2 = mkF m 0 #[vR x0, vI (16 : Int32)] [] := by first | (simp [entryFrame, mkF, argsToLocals, Value.category]; done) | rfl
theorem ef_22_10 (m : MethodId) (x0 : Addr) : entryFrame m #[(.ref x0), (.int (9 : Int32))] 3 = mkF m 0 #[vR x0, vI (9 : Int32), vU] [] := by first | (simp [entryFrame, mkF, argsToLocals, Value.category]; done) | rfl
theorem ef_24_12 (m : MethodId) (x0 : Addr) (x1 : Addr) : entryFrame m #[(.ref x0), (.ref x1)] 2 = mkF m 0 #[vR x0, vR x1] [] := by first | (simp [entryFrame, mkF, argsToLocals, Value.category]; done) | rfl
theorem ef_25_14 (m : MethodId) (x0 : Addr) (x1 : Addr) : entryFrame m #[(.ref x0), (.ref x1), (.int (0 : Int32)), (.int (0 : Int32))] 4 = mkF m 0 #[vR x0, vR x1, vI (0 : Int32), vI (0 : Int32)] [] := by first | (simp [entryFrame, mkF, argsToLocals, Value.category]; done) | rfl
theorem ef_23_11 (m : MethodId) (x0 : Addr) (x2 : Addr) : entryFrame m #[(.ref x0), (.int (0 : Int32)), (.ref x2)] 3 = mkF m 0 #[vR x0, vI (0 : Int32), vR x2] [] := by first | (simp [entryFrame, mkF, argsToLocals, Value.category]; done) | rfl
theorem ef_19_9 (m : MethodId) (x0 : Addr) (x1 : Addr) : entryFrame m #[(.ref x0), (.ref x1)] 3 = mkF m 0 #[vR x0, vR x1, vU] [] := by first | (simp [entryFrame, mkF, argsToLocals, Value.category]; done) | rfl
theorem ef_29_17 (m : MethodId) (x0 : Int32) : entryFrame m #[(.int x0)] 4 = mkF m 0 #[vI x0, vU, vU, vU] [] := by first | (simp [entryFrame, mkF, argsToLocals, Value.category]; done) | rfl
theorem ef_22_18 (m : MethodId) (x0 : Addr) : entryFrame m #[(.ref x0), (.int (10 : Int32))] 3 = mkF m 0 #[vR x0, vI (10 : Int32), vU] [] := by first | (simp [entryFrame, mkF, argsToLocals, Value.category]; done) | rfl
theorem ef_31_20 (m : MethodId) (x0 : Int32) (x2 : Addr) : entryFrame m #[(.int x0), (.int (10 : Int32)), (.ref x2)] 7 = mkF m 0 #[vI x0, vI (10 : Int32), vR x2, vU, vU, vU, vU] [] := by first | (simp [entryFrame, mkF, argsToLocals, Value.category]; done) | rfl
theorem ef_28_16 (m : MethodId) (x0 : Addr) (x1 : Int32) : entryFrame m #[(.ref x0), (.int x1)] 4 = mkF m 0 #[vR x0, vI x1, vU, vU] [] := by first | (simp [entryFrame, mkF, argsToLocals, Value.category]; done) | rfl
theorem ef_27_15 (m : MethodId) (x0 : Addr) (x1 : Int32) : entryFrame m #[(.ref x0), (.int x1)] 2 = mkF m 0 #[vR x0, vI x1] [] := by first | (simp [entryFrame, mkF, argsToLocals, Value.category]; done) | rfl
theorem ef_14_26 (m : MethodId)  : entryFrame m #[(.int (3 : Int32)), (.int (18 : Int32))] 2 = mkF m 0 #[vI (3 : Int32), vI (18 : Int32)] [] := by first | (simp [entryFrame, mkF, argsToLocals, Value.category]; done) | rfl
theorem ef_33_25 (m : MethodId)  : entryFrame m #[(.int (16 : Int32)), (.int (3 : Int32)), (.int (18 : Int32))] 4 = mkF m 0 #[vI (16 : Int32), vI (3 : Int32), vI (18 : Int32), vU] [] := by first | (simp [entryFrame, mkF, argsToLocals, Value.category]; done) | rfl
theorem ef_32_24 (m : MethodId) (x0 : Addr) : entryFrame m #[(.ref x0), (.int (19 : Int32))] 6 = mkF m 0 #[vR x0, vI (19 : Int32), vU, vU, vU, vU] [] := by first | (simp [entryFrame, mkF, argsToLocals, Value.category]; done) | rfl
theorem ef_35_28 (m : MethodId)  : entryFrame m #[(.int (16 : Int32)), (.int (34 : Int32))] 2 = mkF m 0 #[vI (16 : Int32), vI (34 : Int32)] [] := by first | (simp [entryFrame, mkF, argsToLocals, Value.category]; done) | rfl
theorem ef_34_27 (m : MethodId) (x0 : Addr) : entryFrame m #[(.ref x0), (.int (34 : Int32))] 3 = mkF m 0 #[vR x0, vI (34 : Int32), vU] [] := by first | (simp [entryFrame, mkF, argsToLocals, Value.category]; done) | rfl
theorem ef_22_23 (m : MethodId) (x0 : Addr) : entryFrame m #[(.ref x0), (.int (19 : Int32))] 3 = mkF m 0 #[vR x0, vI (19 : Int32), vU] [] := by first | (simp [entryFrame, mkF, argsToLocals, Value.category]; done) | rfl
theorem ef_25_31 (m : MethodId) (x0 : Addr) (x1 : Addr) : entryFrame m #[(.ref x0), (.ref x1), (.int (10 : Int32)), (.int (0 : Int32))] 4 = mkF m 0 #[vR x0, vR x1, vI (10 : Int32), vI (0 : Int32)] [] := by first | (simp [entryFrame, mkF, argsToLocals, Value.category]; done) | rfl
theorem ef_23_29 (m : MethodId) (x0 : Addr) (x2 : Addr) : entryFrame m #[(.ref x0), (.int (10 : Int32)), (.ref x2)] 3 = mkF m 0 #[vR x0, vI (10 : Int32), vR x2] [] := by first | (simp [entryFrame, mkF, argsToLocals, Value.category]; done) | rfl
theorem ef_44_41 (m : MethodId)  : entryFrame m #[(.int (0 : Int32)), (.int (19 : Int32))] 2 = mkF m 0 #[vI (0 : Int32), vI (19 : Int32)] [] := by first | (simp [entryFrame, mkF, argsToLocals, Value.category]; done) | rfl
theorem ef_35_42 (m : MethodId)  : entryFrame m #[(.int (34 : Int32)), (.int (19 : Int32))] 2 = mkF m 0 #[vI (34 : Int32), vI (19 : Int32)] [] := by first | (simp [entryFrame, mkF, argsToLocals, Value.category]; done) | rfl
theorem ef_43_40 (m : MethodId) (x0 : Addr) : entryFrame m #[(.ref x0), (.int (0 : Int32)), (.int (19 : Int32))] 5 = mkF m 0 #[vR x0, vI (0 : Int32), vI (19 : Int32), vU, vU] [] := by first | (simp [entryFrame, mkF, argsToLocals, Value.category]; done) | rfl
theorem ef_42_39 (m : MethodId) (x0 : Addr) : entryFrame m #[(.ref x0), (.int (0 : Int32)), (.int (19 : Int32))] 3 = mkF m 0 #[vR x0, vI (0 : Int32), vI (19 : Int32)] [] := by first | (simp [entryFrame, mkF, argsToLocals, Value.category]; done) | rfl
theorem ef_38_34 (m : MethodId) (x0 : Addr) (x1 : Addr) : entryFrame m #[(.ref x0), (.ref x1), .null] 5 = mkF m 0 #[vR x0, vR x1, vN, vU, vU] [] := by first | (simp [entryFrame, mkF, argsToLocals, Value.category]; done) | rfl
theorem ef_9_50 (m : MethodId)  : entryFrame m #[] 0 = mkF m 0 #[] [] := by first | (simp [entryFrame, mkF, argsToLocals, Value.category]; done) | rfl
theorem ef_7_48 (m : MethodId) (x0 : Addr) : entryFrame m #[(.ref x0)] 2 = mkF m 0 #[vR x0, vU] [] := by first | (simp [entryFrame, mkF, argsToLocals, Value.category]; done) | rfl
theorem ef_14_55 (m : MethodId)  : entryFrame m #[(.int (10 : Int32)), (.int (1 : Int32))] 2 = mkF m 0 #[vI (10 : Int32), vI (1 : Int32)] [] := by first | (simp [entryFrame, mkF, argsToLocals, Value.category]; done) | rfl
theorem ef_13_54 (m : MethodId) (x0 : Addr) : entryFrame m #[(.ref x0), (.int (1 : Int32))] 4 = mkF m 0 #[vR x0, vI (1 : Int32), vU, vU] [] := by first | (simp [entryFrame, mkF, argsToLocals, Value.category]; done) | rfl
theorem ef_11_52 (m : MethodId) (x0 : Addr) (x1 : Addr) (x2 : Addr) : entryFrame m #[(.ref x0), (.ref x1), (.ref x2), (.int (0 : Int32))] 4 = mkF m 0 #[vR x0, vR x1, vR x2, vI (0 : Int32)] [] := by first | (simp [entryFrame, mkF, argsToLocals, Value.category]; done) | rfl
theorem ef_11_57 (m : MethodId) (x0 : Addr) (x1 : Addr) (x2 : Addr) : entryFrame m #[(.ref x0), (.ref x1), (.ref x2), (.int (1 : Int32))] 4 = mkF m 0 #[vR x0, vR x1, vR x2, vI (1 : Int32)] [] := by first | (simp [entryFrame, mkF, argsToLocals, Value.category]; done) | rfl
theorem ef_11_59 (m : MethodId) (x0 : Addr) (x1 : Addr) (x2 : Addr) : entryFrame m #[(.ref x0), (.ref x1), (.ref x2), (.int (2 : Int32))] 4 = mkF m 0 #[vR x0, vR x1, vR x2, vI (2 : Int32)] [] := by first | (simp [entryFrame, mkF, argsToLocals, Value.category]; done) | rfl
theorem ef_11_61 (m : MethodId) (x0 : Addr) (x1 : Addr) (x2 : Addr) : entryFrame m #[(.ref x0), (.ref x1), (.ref x2), (.int (3 : Int32))] 4 = mkF m 0 #[vR x0, vR x1, vR x2, vI (3 : Int32)] [] := by first | (simp [entryFrame, mkF, argsToLocals, Value.category]; done) | rfl
theorem ef_11_63 (m : MethodId) (x0 : Addr) (x1 : Addr) (x2 : Addr) : entryFrame m #[(.ref x0), (.ref x1), (.ref x2), (.int (4 : Int32))] 4 = mkF m 0 #[vR x0, vR x1, vR x2, vI (4 : Int32)] [] := by first | (simp [entryFrame, mkF, argsToLocals, Value.category]; done) | rfl
theorem ef_11_65 (m : MethodId) (x0 : Addr) (x1 : Addr) (x2 : Addr) : entryFrame m #[(.ref x0), (.ref x1), (.ref x2), (.int (5 : Int32))] 4 = mkF m 0 #[vR x0, vR x1, vR x2, vI (5 : Int32)] [] := by first | (simp [entryFrame, mkF, argsToLocals, Value.category]; done) | rfl
theorem ef_11_67 (m : MethodId) (x0 : Addr) (x1 : Addr) (x2 : Addr) : entryFrame m #[(.ref x0), (.ref x1), (.ref x2), (.int (6 : Int32))] 4 = mkF m 0 #[vR x0, vR x1, vR x2, vI (6 : Int32)] [] := by first | (simp [entryFrame, mkF, argsToLocals, Value.category]; done) | rfl
theorem ef_11_69 (m : MethodId) (x0 : Addr) (x1 : Addr) (x2 : Addr) : entryFrame m #[(.ref x0), (.ref x1), (.ref x2), (.int (7 : Int32))] 4 = mkF m 0 #[vR x0, vR x1, vR x2, vI (7 : Int32)] [] := by first | (simp [entryFrame, mkF, argsToLocals, Value.category]; done) | rfl
theorem ef_11_71 (m : MethodId) (x0 : Addr) (x1 : Addr) (x2 : Addr) : entryFrame m #[(.ref x0), (.ref x1), (.ref x2), (.int (8 : Int32))] 4 = mkF m 0 #[vR x0, vR x1, vR x2, vI (8 : Int32)] [] := by first | (simp [entryFrame, mkF, argsToLocals, Value.category]; done) | rfl
theorem ef_11_74 (m : MethodId) (x0 : Addr) (x1 : Addr) (x2 : Addr) : entryFrame m #[(.ref x0), (.ref x1), (.ref x2), (.int (9 : Int32))] 4 = mkF m 0 #[vR x0, vR x1, vR x2, vI (9 : Int32)] [] := by first | (simp [entryFrame, mkF, argsToLocals, Value.category]; done) | rfl
theorem ef_14_80 (m : MethodId)  : entryFrame m #[(.int (1 : Int32)), (.int (5 : Int32))] 2 = mkF m 0 #[vI (1 : Int32), vI (5 : Int32)] [] := by first | (simp [entryFrame, mkF, argsToLocals, Value.category]; done) | rfl
theorem ef_33_79 (m : MethodId)  : entryFrame m #[(.int (10 : Int32)), (.int (1 : Int32)), (.int (5 : Int32))] 4 = mkF m 0 #[vI (10 : Int32), vI (1 : Int32), vI (5 : Int32), vU] [] := by first | (simp [entryFrame, mkF, argsToLocals, Value.category]; done) | rfl
theorem ef_35_83 (m : MethodId)  : entryFrame m #[(.int (10 : Int32)), (.int (15 : Int32))] 2 = mkF m 0 #[vI (10 : Int32), vI (15 : Int32)] [] := by first | (simp [entryFrame, mkF, argsToLocals, Value.category]; done) | rfl
theorem ef_54_82 (m : MethodId) (x0 : Addr) (x2 : Addr) : entryFrame m #[(.ref x0), (.int (15 : Int32)), (.ref x2)] 4 = mkF m 0 #[vR x0, vI (15 : Int32), vR x2, vU] [] := by first | (simp [entryFrame, mkF, argsToLocals, Value.category]; done) | rfl
theorem ef_53_81 (m : MethodId) (x0 : Addr) : entryFrame m #[(.ref x0), (.int (15 : Int32))] 2 = mkF m 0 #[vR x0, vI (15 : Int32)] [] := by first | (simp [entryFrame, mkF, argsToLocals, Value.category]; done) | rfl
theorem ef_13_78 (m : MethodId) (x0 : Addr) : entryFrame m #[(.ref x0), (.int (11 : Int32))] 4 = mkF m 0 #[vR x0, vI (11 : Int32), vU, vU] [] := by first | (simp [entryFrame, mkF, argsToLocals, Value.category]; done) | rfl
theorem ef_11_76 (m : MethodId) (x0 : Addr) (x1 : Addr) (x2 : Addr) : entryFrame m #[(.ref x0), (.ref x1), (.ref x2), (.int (10 : Int32))] 4 = mkF m 0 #[vR x0, vR x1, vR x2, vI (10 : Int32)] [] := by first | (simp [entryFrame, mkF, argsToLocals, Value.category]; done) | rfl
theorem ef_11_85 (m : MethodId) (x0 : Addr) (x1 : Addr) (x2 : Addr) : entryFrame m #[(.ref x0), (.ref x1), (.ref x2), (.int (11 : Int32))] 4 = mkF m 0 #[vR x0, vR x1, vR x2, vI (11 : Int32)] [] := by first | (simp [entryFrame, mkF, argsToLocals, Value.category]; done) | rfl
theorem ef_law (m : MethodId) (x0 : Int32) (x1 : Int32) : entryFrame m #[(.int x0), (.int x1)] maxLocals = mkF m 0 #[vI x0, vI x1, vU, vU, vU, vU, vU, vU, vU] [] := by first | (simp [entryFrame, mkF, argsToLocals, Value.category, maxLocals]; done) | rfl
theorem own_cpB {p : Program} {l : Launch} {e : Env} {R : Room} {s : State} {m : MethodId} {args : Array Value} {below : List Frame} {meth : Method} {c : Code} {T : State} {locs : List Loc} {cells slots : Nat} {Z : State} {h : Heap} {a b : Addr} {k k' : ClassId} {z z' : Int32} {cs ds : List Int32}
    (X : Stand p l e R s m args below meth c T locs cells slots) (hx : p.tables.exec = Jvm.exec) (hZ : Z.Warmed39 s.vm) {a0 : Array Value} {own : String} {index : Nat} (hown : s.vm.findClass own = some m.cls)
    (w1 : (Jvm.Cond.methodLink own index Jvm.Stand.acN).before a0 Z = true) (w2 : (Jvm.Cond.native Jvm.Stand.acN).before a0 Z = true) (w3 : (Jvm.Cond.static Jvm.Stand.acN).before a0 Z = true) (w4 : (Jvm.Cond.initialized "java/lang/System").before a0 Z = true) (eT : T.heap = h)
    (A : Arv Z h a k .byte z (own_by cs) (.int (0 : Int32))) (B : Arv Z h b k' .byte z' (own_by ds) (.int (0 : Int32))) {sp dp nn : Int32} (h1 : sp = (0 : Int32)) (h2 : ¬ dp < 0) (h3 : ¬ nn < 0) (h4 : nn.toNatClampNeg ≤ z.toNatClampNeg) (h5 : dp.toNatClampNeg + nn.toNatClampNeg ≤ z'.toNatClampNeg)
    (h6 : ds.length = dp.toNatClampNeg) (h7 : cs.length ≤ nn.toNatClampNeg) {n0 : Nat} (N : Fr n0 locs) (ge : n0 ≤ b)
    {g : JFrame} (hg : g.method = m) (hsize : g.locals.size = c.maxLocals) {rest : List Value} (hs : g.stack = .int nn :: .int dp :: .ref b :: .int sp :: .ref a :: rest) (hd : decode c.code g.pc = .ok (.invokestatic index, 3))
    (hf : 1 ≤ R.frames) {W : Nat} (hW : 2 * g.monitorRoom + (rest.map fun v => v.category).sum ≤ W) (hlo : W + 18 ≤ R.locals) :
    ∃ T' h' L, Stand p l e R s m args below meth c T' L cells slots ∧ T'.heap = h' ∧ Fr n0 L ∧ Keep h h' [b] ∧ Arv Z h' b k' .byte z' (own_by (ds ++ cs)) (.int (0 : Int32)) ∧
      ∀ target, Steps p.tables e below (T'.setTop { g with pc := g.pc + 3, stack := rest }) target → Steps p.tables e below (T.setTop g) target := by
  subst h1
  have e0 : (0 : Int32).toNatClampNeg = 0 := rfl
  have B2 : Arv Z h b k' .byte z' (own_by ds ++ List.replicate nn.toNatClampNeg (.int (0 : Int32))) (.int (0 : Int32)) := B.pad (pad_rep _ _ _)
  have ld : (own_by ds).length = dp.toNatClampNeg := by simp [own_by, h6]
  have lc : (own_by cs).length = cs.length := by simp [own_by]
  obtain ⟨T', h', L, X', e', N', K', V', st⟩ := cpA X hx hZ hown w1 w2 w3 w4 eT A B2 (us := (List.range nn.toNatClampNeg).map fun i => (own_by cs).getD ((0 : Int32).toNatClampNeg + i) (.int (0 : Int32))) (Or.inl ⟨rfl, rfl⟩) (by decide) h2 h3 (by rw [e0]; omega) h5 rfl (by simp [own_by]; omega) N ge hg hsize hs hd hf hW (by show W + (7 + 11) ≤ _; omega)
  refine ⟨T', h', L, X', e', N', K', ?_, st⟩
  refine V'.pad fun i => ?_
  rw [own_by_app]
  have t1 : (own_by ds ++ List.replicate nn.toNatClampNeg (Value.int 0)).take dp.toNatClampNeg = own_by ds := by rw [← ld, List.take_left']; rfl
  have t2 : (own_by ds ++ List.replicate nn.toNatClampNeg (Value.int 0)).drop (dp.toNatClampNeg + nn.toNatClampNeg) = [] := by apply List.drop_eq_nil_of_le; simp [own_by]; omega
  rw [t1, t2, List.append_nil]
  by_cases q : i < dp.toNatClampNeg
  · simp only [List.getD_eq_getElem?_getD]; rw [List.getElem?_append_left (by omega), List.getElem?_append_left (by omega)]
  · simp only [List.getD_eq_getElem?_getD]; rw [List.getElem?_append_right (by omega), List.getElem?_append_right (by omega)]
    generalize i - (own_by ds).length = j
    by_cases r : j < nn.toNatClampNeg
    · simp [r, e0]
    · rw [List.getElem?_eq_none (by simp [own_by]; omega), List.getElem?_eq_none (by simp [own_by]; omega)]
theorem own_lenA {p : Program} {l : Launch} {e : Env} {R : Room} {s : State} {m : MethodId} {args : Array Value} {below : List Frame} {meth : Method} {c : Code} {T : State} {locs : List Loc} {cells slots : Nat} {Z : State} {h : Heap} {x t : Addr} {kb : ClassId} {cs : List Int32} {n W index : Nat} {G1 : Int32} {a0 : Array Value} {own : String}
    (X : Stand p l e R s m args below meth c T locs cells slots) (hx : p.tables.exec = Jvm.exec) (hZ : Z.Warmed39 s.vm) (hown : s.vm.findClass own = some m.cls) (w1 : (Jvm.Cond.methodLink own index ⟨"java/lang/String", "length", "()I"⟩).before a0 Z = true) (hw : HW Z a0) (E : Exa Z h x "java/lang/String") (V : Fld Z h x "java/lang/String" "value" "[B" (.ref t)) (C : Fld Z h x "java/lang/String" "coder" "B" (.int 0)) (K : Arv Z h t kb .byte (Int32.ofNat n) (own_by cs) (.int 0)) (hn : cs.length = n) (hp : ∀ c ∈ cs, ¬ c < 0 ∧ ¬ (255 : Int32) < c) (eT : T.heap = h)
    (S : Sta Z h "java/lang/String" "COMPACT_STRINGS" "Z" (.int G1)) (P5 : ¬ G1 = 0) {g : JFrame} (hg : g.method = m) (hsize : g.locals.size = c.maxLocals) {rest : List Value} (hs : g.stack = .ref x :: rest) (hd : decode c.code g.pc = .ok (.invokevirtual index, 3)) (nq : (Nat.ble (2 * g.monitorRoom + (rest.map fun v => v.category).sum) W && (Nat.ble n 4000 && (Nat.ble 2 R.frames && (Nat.ble (W + 25) R.locals && (Nat.ble cells R.cells && Nat.ble slots R.slots))))) = true) :
    ∃ T', Stand p l e R s m args below meth c T' locs cells slots ∧ T'.heap = h ∧ ∀ target, Steps p.tables e below (T'.setTop { g with pc := g.pc + 3, stack := .int (Int32.ofNat n) :: rest }) target → Steps p.tables e below (T.setTop g) target := by
  obtain ⟨hW, l2, hfr, hlo, hcs⟩ : 2 * g.monitorRoom + (rest.map fun v => v.category).sum ≤ W ∧ n ≤ 4000 ∧ 2 ≤ R.frames ∧ W + 25 ≤ R.locals ∧ cells ≤ R.cells ∧ slots ≤ R.slots := by simpa [Nat.ble_eq] using nq
  subst hn
  obtain ⟨cB, kB, q1, q2, q3⟩ := isOf hZ eT E
  obtain ⟨v, vm1, ⟨T', L', c', s'⟩, -, X', ⟨L, ⟨rfl, rfl, eq⟩, l1, l2', l3⟩, st⟩ := X.virtualBack hx (y := ⟨"java/lang/String", "length", "()I"⟩) (z := ⟨"java/lang/String", "length", "()I"⟩) hown (mvT hZ w1) (mvT hZ (own_w hw 136)) (notFace_of_selects (args := #[]) (mvT hZ (own_w hw 138))) (mvT hZ (own_w hw 138)) (mvT hZ (own_w hw 137)) (by decide) (StrChars.Road.lenW (W := W) hZ (own_hln hw) (kI := 4) (own_w hw 120) (cs := cs) E V C K (StrChars.Road.codOf rfl (fun c hc => (hp c hc).2)) (own_up _ hp) S P5 l2 hfr hlo) q1 q3 hg hsize (Steps.refl _) (argsL := []) (rest := rest) (lenOf pd_17 rfl) hs hW hd (fun _ _ => ⟨rfl, eT, hcs.1, hcs.2⟩)
  dsimp only [Pt.U, Pt.locs, Pt.cells, Pt.slots] at X' l1 l2' l3 st eq
  subst l1 l2' l3
  rw [List.append_nil] at X'
  exact ⟨T', X', eq, fun target k => st.trans k⟩
abbrev cN0 : String := "com/example/interplay/interplay/history/Group"
abbrev cN1 : String := "java/lang/Object"
abbrev cN2 : String := "java/util/ArrayList"
abbrev cN3 : String := "java/util/ImmutableCollections$ListN"
abbrev cN4 : String := "java/lang/AbstractStringBuilder"
abbrev cN5 : String := "java/util/AbstractList"
abbrev cN6 : String := "java/lang/String"
abbrev cN7 : String := "java/util/ImmutableCollections"
abbrev cN8 : String := "java/lang/StringBuilder"
abbrev R26_1 : Room := { frames := 0, cells := 0, slots := 0, locals := 0 }
def Q26_1 (Z : State) (ra0 w1 : Addr) (k_w1 : ClassId) (z_w1 : Int32) (vs_w1 : List Value) (dv_w1 : Value) (h0 : Heap) (n0 : Nat) (v : Option Value) (h : Heap) (L : List Loc) : Prop := (v = some (.int z_w1) ∧ Fr n0 L ∧ h = h0)
theorem rm26_1 l Z a0 (hw : HW Z a0) ra0 w1 k_w1 (z_w1 : Int32) (vs_w1 : List Value) (dv_w1 : Value) h0 n0 (OLD : Old Z n0 h0) (A' : Fld Z h0 ra0 cN3 "elements" "[Ljava/lang/Object;" (.ref w1)) (B' : Arv Z h0 w1 k_w1 (.object cN1) z_w1 vs_w1 dv_w1) :
  own_CN l Z y0 jdk_45_method_3_code 1 (some .int) [] R26_1 #[.ref ra0] h0 (Q26_1 Z ra0 w1 k_w1 z_w1 vs_w1 dv_w1 h0 n0) := by
 refine own_entryN (plainFor_of_name pn_0) fun p e s m below meth c s₁ hx hby hml hown hnm hret hlk hZ hh X0 e0 => ?_
 have N0 := Fr.nil n0
 rw [ef_26_1 m ra0]
 refine og s₁ (mkF m 1 #[vR ra0] [.ref ra0]) (fun _ k => qa X0 hx hby d26_0 rfl rfl rfl k) ?_
 obtain ⟨T2, X2, e2, st2⟩ := qf X0 hx hZ hown (ow hw 185) e0 A' (g := (mkF m 1 #[vR ra0] [.ref ra0])) rfl rfl hby d26_1
 refine og T2 (mkF m 4 #[vR ra0] [.ref w1]) st2 ?_
 obtain ⟨cl3, Ar3, -, Sr3, Nr3, -, -⟩ := id B'
 refine og T2 (mkF m 5 #[vR ra0] [.int z_w1]) (fun t k => X2.arraylength hx (by rw [e2]; exact Ar3.1) (State.isArrayOf_alike hZ.alike Ar3.2.1) (g := (mkF m 4 #[vR ra0] [.ref w1])) rfl rfl (hb hby d26_4) t (by rw [len_of Sr3 Nr3]; exact k)) ?_
 exact own_leaveN X2 hlk (v := some (.int z_w1)) (own_nr hret) (lb rfl) (lb rfl) (by rw [e2]; exact ⟨rfl, N0, rfl⟩) (fun fs hr => retI X2 hx hret (hb hby d26_5) hr)
abbrev R62_2 : Room := { frames := 0, cells := 0, slots := 0, locals := 0 }
def Q62_2 (Z : State) (ra0 w1 em : Addr) (h0 : Heap) (n0 : Nat) (v : Option Value) (h : Heap) (L : List Loc) : Prop := (w1 = em ∧ v = some (.int 1) ∧ Fr n0 L ∧ h = h0) ∨ ((¬ (w1 = em)) ∧ v = some (.int 2) ∧ Fr n0 L ∧ h = h0)
theorem rm62_2 l Z a0 (hw : HW Z a0) ra0 w1 em h0 n0 (OLD : Old Z n0 h0) (A' : Fld Z h0 ra0 "java/util/ImmutableCollections$List12" "e1" "Ljava/lang/Object;" (.ref w1)) (SM0 : Sta Z Z.heap cN7 "EMPTY" "Ljava/lang/Object;" (.ref em)) (EM0 : Exa Z Z.heap em cN1) :
  own_CN l Z y1 jdk_44_method_3_code 1 (some .int) [] R62_2 #[.ref ra0] h0 (Q62_2 Z ra0 w1 em h0 n0) := by
 refine own_entryN (plainFor_of_name pn_1) fun p e s m below meth c s₁ hx hby hml hown hnm hret hlk hZ hh X0 e0 => ?_
 have N0 := Fr.nil n0
 rw [ef_26_1 m ra0]
 refine og s₁ (mkF m 1 #[vR ra0] [.ref ra0]) (fun _ k => qa X0 hx hby d62_0 rfl rfl rfl k) ?_
 obtain ⟨T2, X2, e2, st2⟩ := qf X0 hx hZ hown (ow hw 364) e0 A' (g := (mkF m 1 #[vR ra0] [.ref ra0])) rfl rfl hby d62_1
 refine og T2 (mkF m 4 #[vR ra0] [.ref w1]) st2 ?_
 obtain ⟨T3, X3, e3, st3⟩ := getS2 X2 hx hZ hown (Or.inr (ow hw 372)) Via.refl e2 (SM0.ext OLD.2) (g := (mkF m 4 #[vR ra0] [.ref w1])) rfl (hb hby d62_4)
 refine og T3 (mkF m 7 #[vR ra0] [.ref em, .ref w1]) st3 ?_
 by_cases hc4 : w1 = em
 ·
  refine og T3 (mkF m 15 #[vR ra0] [.int 1]) (fun _ k => Jvm.RoadKit.acmp (g := (mkF m 7 #[vR ra0] [.ref em, .ref w1])) X3 hx rfl rfl rfl (pc0 := 7) (pc' := 14) (same := true) rfl (hb hby d62_7) rfl (decide_eq_true (congrArg Value.ref hc4)) (by decide) (by decide) (qc X3 hx hby d62_14 rfl k)) ?_
  exact own_leaveN X3 hlk (v := some (.int 1)) (own_nr hret) (lb rfl) (lb rfl) (by rw [e3]; exact (Or.inl ⟨hc4, rfl, N0, rfl⟩)) (fun fs hr => retI X3 hx hret (hb hby d62_15) hr)
 ·
  refine og T3 (mkF m 15 #[vR ra0] [.int 2]) (fun _ k => Jvm.RoadKit.acmp (g := (mkF m 7 #[vR ra0] [.ref em, .ref w1])) X3 hx rfl rfl rfl (pc0 := 7) (pc' := 10) (same := false) rfl (hb hby d62_7) rfl (decide_eq_false fun q => hc4 (Value.ref.inj q)) (by decide) (by decide) (qc X3 hx hby d62_10 rfl (XS.goto X3.here hx rfl (pc0 := 11) (pc' := 15) rfl (hb hby d62_11) (by decide) (by decide) k))) ?_
  exact own_leaveN X3 hlk (v := some (.int 2)) (own_nr hret) (lb rfl) (lb rfl) (by rw [e3]; exact (Or.inr ⟨hc4, rfl, N0, rfl⟩)) (fun fs hr => retI X3 hx hret (hb hby d62_15) hr)
section Lsz
variable {p : Program} {l : Launch} {e : Env} {R : Room} {s : State} {m : MethodId} {args : Array Value} {below : List Frame} {meth : Method} {c : Code} {T T' U Z : State} {locs : List Loc} {cells slots : Nat} {h h' h0 : Heap} {a b r em : Addr} {n0 : Nat} {a0 : Array Value}
/-- List.size on the immutable list -/
theorem own_lsz {own : String} {index W : Nat} {n : Int32} (X : Stand p l e R s m args below meth c T locs cells slots) (hx : p.tables.exec = Jvm.exec) (hZ : Z.Warmed39 s.vm) (hw : HW Z a0) (hown : s.vm.findClass own = some m.cls) (w1 : (Jvm.Cond.methodLink own index ⟨"java/util/List", "size", "()I"⟩).before a0 Z = true) (OLD : Old Z n0 h) (SM0 : Sta Z Z.heap "java/util/ImmutableCollections" "EMPTY" "Ljava/lang/Object;" (.ref em)) (EM0 : Exa Z Z.heap em "java/lang/Object") (eT : T.heap = h) (Q : own_lst Z em h r b n)
  {g : JFrame} (hg : g.method = m) (hsize : g.locals.size = c.maxLocals) {rest : List Value} (hs : g.stack = .ref r :: rest) (hd : decode c.code g.pc = .ok (.invokeinterface index 1, 5)) (hW : 2 * g.monitorRoom + (rest.map fun v => v.category).sum ≤ W) (hf : 1 ≤ R.frames) (hl : W + 12 ≤ R.locals) (hc : cells ≤ R.cells) (hsl : slots ≤ R.slots) :
  ∃ T' L, Stand p l e R s m args below meth c T' (locs ++ L) cells slots ∧ Fr n0 L ∧ T'.heap = h ∧ Steps p.tables e below (T.setTop g) (T'.setTop { g with pc := g.pc + 5, stack := .int n :: rest }) := by
 rcases Q with ⟨I, F, k, vs, V⟩ | ⟨I, x, F, q⟩
 ·
  obtain ⟨cq, kq, qa, qb, qc⟩ := own_isOf hZ eT I
  obtain ⟨_, _, ⟨T1, L1, k1, n1⟩, -, X1, ⟨Lc, hQ, l1, y1, z1⟩, st⟩ := X.interfaceBack hx (xi := ⟨"java/util/List", "size", "()I"⟩) (y := ⟨"java/util/ImmutableCollections$ListN", "size", "()I"⟩) hown (mvT hZ w1) (mvT hZ (own_w hw 176)) (mvT hZ (own_w hw 177)) (mvT hZ (own_w hw 178)) (mvT hZ (own_w hw 179)) (mvT hZ (own_w hw 180)) (mvT hZ (own_w hw 181)) (mvT hZ (own_w hw 182)) (by decide) (backOf (W := W) (rm26_1 l Z a0 hw r b k n vs .null h n0 OLD F V) hZ (own_w hw 184) (own_w hw 183) (by show 0 + 1 ≤ R.frames; omega) (by show W + (1 + 11) + 0 ≤ R.locals; omega)) qa qb qc hg hsize (Steps.refl _) (argsL := []) (rest := rest) (lenOf pd_17 rfl) hs hW hd (fun _ _ => ⟨rfl, eT, (by show cells + 0 ≤ _; omega), (by show slots + 0 ≤ _; omega)⟩)
  dsimp only [Pt.U, Pt.locs, Pt.cells, Pt.slots] at X1 l1 y1 z1 st hQ
  subst l1 y1 z1
  obtain ⟨rfl, N, eq⟩ := hQ
  exact ⟨T1, Lc, X1, N, eq, st⟩
 ·
  obtain ⟨cq, kq, qa, qb, qc⟩ := own_isOf hZ eT I
  obtain ⟨_, _, ⟨T1, L1, k1, n1⟩, -, X1, ⟨Lc, hQ, l1, y1, z1⟩, st⟩ := X.interfaceBack hx (xi := ⟨"java/util/List", "size", "()I"⟩) (y := ⟨"java/util/ImmutableCollections$List12", "size", "()I"⟩) hown (mvT hZ w1) (mvT hZ (own_w hw 176)) (mvT hZ (own_w hw 177)) (mvT hZ (own_w hw 366)) (mvT hZ (own_w hw 367)) (mvT hZ (own_w hw 368)) (mvT hZ (own_w hw 369)) (mvT hZ (own_w hw 370)) (by decide) (backOf (W := W) (rm62_2 l Z a0 hw r x em h n0 OLD F SM0 EM0) hZ (own_w hw 371) (own_w hw 352) (by show 0 + 1 ≤ R.frames; omega) (by show W + (1 + 11) + 0 ≤ R.locals; omega)) qa qb qc hg hsize (Steps.refl _) (argsL := []) (rest := rest) (lenOf pd_17 rfl) hs hW hd (fun _ _ => ⟨rfl, eT, (by show cells + 0 ≤ _; omega), (by show slots + 0 ≤ _; omega)⟩)
  dsimp only [Pt.U, Pt.locs, Pt.cells, Pt.slots] at X1 l1 y1 z1 st hQ
  subst l1 y1 z1
  rcases hQ with ⟨c1, rfl, N, eq⟩ | ⟨c1, rfl, N, eq⟩
  ·
   rcases q with ⟨rfl, -⟩ | ⟨-, q2⟩
   ·
    exact ⟨T1, Lc, X1, N, eq, st⟩
   ·
    exact absurd c1 q2
  ·
   rcases q with ⟨-, q2⟩ | ⟨rfl, -⟩
   ·
    exact absurd q2 c1
   ·
    exact ⟨T1, Lc, X1, N, eq, st⟩
end Lsz

abbrev R17_6 : Room := { frames := 1, cells := 1, slots := 16, locals := 12 }
def Q17_6 (Z : State) (ra0 : Addr) (G1 : Int32) (h0 : Heap) (n0 : Nat) (v : Option Value) (h : Heap) (L : List Loc) : Prop := (∃ (b3 : Addr) (k3 : ClassId), v = none ∧ Fr n0 L ∧ Keep h0 h [ra0] ∧ h0.size ≤ b3 ∧ Fld Z h ra0 cN4 "coder" "B" (.int 0) ∧ Fld Z h ra0 cN4 "count" "I" (.int 0) ∧ Fld Z h ra0 cN4 "value" "[B" (.ref b3) ∧ Arv Z h b3 k3 .byte (16 : Int32) (own_by ([] : List Int32)) (.int 0))
theorem rm17_6 l Z a0 (hw : HW Z a0) ra0 (G1 : Int32) h0 n0 (OLD : Old Z n0 h0) (A' : Exa Z h0 ra0 cN8) (B' : Fld Z h0 ra0 cN4 "coder" "B" (.int 0)) (C' : Fld Z h0 ra0 cN4 "count" "I" (.int 0)) (D' : Fld Z h0 ra0 cN4 "value" "[B" .null) (O2 : Sta Z Z.heap cN6 "COMPACT_STRINGS" "Z" (.int G1)) (P5 : ¬ (G1 = (0 : Int32))) (E' : n0 ≤ ra0) :
  own_CN l Z y2 jdk_68_method_2_code 2 none [] R17_6 #[.ref ra0, .int 16] h0 (Q17_6 Z ra0 G1 h0 n0) := by
 refine own_entryN (plainFor_of_name pn_2) fun p e s m below meth c s₁ hx hby hml hown hnm hret hlk hZ hh X0 e0 => ?_
 have N0 := Fr.nil n0
 rw [ef_17_6 m ra0]
 refine og s₁ (mkF m 1 #[vR ra0, vI 16] [.ref ra0]) (fun _ k => qa X0 hx hby d17_0 rfl rfl rfl k) ?_
 obtain ⟨T1, X1, e1, st1⟩ := initO X0 hx hZ hown (ow hw 111) (ow hw 23) (ow hw 24) e0 (g := (mkF m 1 #[vR ra0, vI 16] [.ref ra0])) rfl (zs hml) rfl (hb hby d17_1) (by decide) (W := 0) (lb rfl) (by decide)
 refine og T1 (mkF m 4 #[vR ra0, vI 16] []) st1 ?_
 obtain ⟨T2, X2, e2, st2⟩ := getS2 X1 hx hZ hown (host := "") (Or.inl (ow hw 112)) Via.refl e1 (O2.ext OLD.2) (g := (mkF m 4 #[vR ra0, vI 16] [])) rfl (hb hby d17_4)
 refine og T2 (mkF m 12 #[vR ra0, vI 16] [.int 16, .ref ra0]) (fun _ k => st2 _ (XS.ifNo X2.here hx rfl (hb hby d17_7) rfl ((if0 _ _).trans (feq P5).1) (qa X2 hx hby d17_10 rfl rfl rfl (qi X2 hx hby d17_11 rfl rfl k)))) ?_
 obtain ⟨T3, h3, k3, X3, e3, E3, A3, st3⟩ := newP X2 hx hZ (ow hw 114) e2 (g := (mkF m 12 #[vR ra0, vI 16] [.int 16, .ref ra0])) rfl (hb hby d17_12) rfl (by decide) (cap := 16) (by decide) (lb rfl) (lb rfl) (lb rfl)
 obtain ⟨b3, gb3⟩ : ∃ z, z = h0.size := ⟨_, rfl⟩
 rw [← gb3] at A3 st3
 have g4 : n0 ≤ b3 := Nat.le_trans (own_osz OLD) (Nat.le_of_eq gb3.symm)
 have z5 : h0.size ≤ b3 := Nat.le_trans (Nat.le_refl _) (Nat.le_of_eq gb3.symm)
 have V3 : Arv Z h3 b3 k3 .byte (16 : Int32) (own_by ([] : List Int32)) (.int 0) := Arv.new A3 (by decide)
 refine og T3 (mkF m 14 #[vR ra0, vI 16] [.ref b3, .ref ra0]) st3 ?_
 have F6 := (A'.ext E3)
 have F7 := (D'.ext E3)
 obtain ⟨T8, h8, X8, e8, W8, st8⟩ := putF X3 hx hZ hown (host := "") (Or.inl (ow hw 115)) Via.refl e3 F7 F6 (Or.inl (ow hw 116)) (ow hw 100) (ty := (.array .byte)) (by decide) rfl rfl (g := (mkF m 14 #[vR ra0, vI 16] [.ref b3, .ref ra0])) rfl rfl (hb hby d17_14)
 have Fw8 := F7.same W8
 have N8 := Fr.snoc X8 N0 E'
 refine og T8 (mkF m 19 #[vR ra0, vI 16] [.int 0, .ref ra0]) (fun _ k => st8 _ (qa X8 hx hby d17_17 rfl rfl rfl (qc X8 hx hby d17_18 rfl k))) ?_
 have F9 := (F6.wr W8)
 have F10 := ((B'.ext E3).other W8 (Or.inr (slot_ne (Or.inl (ow hw 118)) (Or.inl (ow hw 116)) (by decide) (t := .byte) (t' := (.array .byte)) (by decide) (by decide))))
 obtain ⟨T11, h11, X11, e11, W11, st11⟩ := putFN X8 hx hZ hown (ow hw 117) Via.refl e8 F10 F9 (Or.inl (ow hw 118)) (ow hw 100) (ty := .byte) (v' := (.int (nar .byte (0 : Int32)))) (by decide) rfl (fits_nar_byte _) (g := (mkF m 19 #[vR ra0, vI 16] [.int 0, .ref ra0])) rfl rfl (hb hby d17_19)
 rw [show nar .byte (0 : Int32) = (0 : Int32) from rfl] at W11
 have Fw11 := F10.same W11
 have N11 := Fr.snoc X11 N8 E'
 refine og T11 (mkF m 38 #[vR ra0, vI 16] []) (fun _ k => st11 _ (XS.goto X11.here hx rfl (pc0 := 22) (pc' := 38) rfl (hb hby d17_22) (by decide) (by decide) k)) ?_
 have F12 := (((C'.ext E3).other W8 (Or.inr (slot_ne (Or.inl (ow hw 149)) (Or.inl (ow hw 116)) (by decide) (t := .int) (t' := (.array .byte)) (by decide) (by decide)))).other W11 (Or.inr (slot_ne (Or.inl (ow hw 149)) (Or.inl (ow hw 118)) (by decide) (t := .int) (t' := .byte) (by decide) (by decide))))
 have F13 := (Fw8.other W11 (Or.inr (slot_ne (Or.inl (ow hw 116)) (Or.inl (ow hw 118)) (by decide) (t := (.array .byte)) (t' := .byte) (by decide) (by decide))))
 have F14 := ((V3.other W8 (Ne.symm (own_ne_lo A'.lt (Nat.le_of_eq gb3.symm)))).other W11 (Ne.symm (own_ne_lo A'.lt (Nat.le_of_eq gb3.symm))))
 have KEEP := ((((Keep.refl h0 [ra0]).ext E3).wr W8 (Or.inl (List.mem_of_getElem? (i := 0) rfl))).wr W11 (Or.inl (List.mem_of_getElem? (i := 0) rfl)))
 exact own_leaveN X11 hlk (v := none) (fun _ => rfl) (lb rfl) (lb rfl) (by rw [e11]; exact ⟨b3, k3, rfl, N11, KEEP, z5, Fw11, F12, F13, F14⟩) (fun fs hr => X11.returnOut hx hret (hb hby d17_38) hr)
abbrev R16_5 : Room := { frames := 2, cells := 1, slots := 16, locals := 25 }
def Q16_5 (Z : State) (ra0 : Addr) (G1 : Int32) (h0 : Heap) (n0 : Nat) (v : Option Value) (h : Heap) (L : List Loc) : Prop := (∃ (o2 : Addr) (kc3 : ClassId), v = none ∧ Fr n0 L ∧ Keep h0 h [ra0] ∧ h0.size ≤ o2 ∧ Fld Z h ra0 cN4 "coder" "B" (.int 0) ∧ Fld Z h ra0 cN4 "count" "I" (.int 0) ∧ Fld Z h ra0 cN4 "value" "[B" (.ref o2) ∧ Arv Z h o2 kc3 .byte (16 : Int32) (own_by ([] : List Int32)) (.int 0))
theorem rm16_5 l Z a0 (hw : HW Z a0) ra0 (G1 : Int32) h0 n0 (OLD : Old Z n0 h0) (A' : Exa Z h0 ra0 cN8) (B' : Fld Z h0 ra0 cN4 "coder" "B" (.int 0)) (C' : Fld Z h0 ra0 cN4 "count" "I" (.int 0)) (D' : Fld Z h0 ra0 cN4 "value" "[B" .null) (O2 : Sta Z Z.heap cN6 "COMPACT_STRINGS" "Z" (.int G1)) (P5 : ¬ (G1 = (0 : Int32))) (E' : n0 ≤ ra0) :
  own_CN l Z y3 jdk_67_method_1_code 1 none [] R16_5 #[.ref ra0] h0 (Q16_5 Z ra0 G1 h0 n0) := by
 refine own_entryN (plainFor_of_name pn_3) fun p e s m below meth c s₁ hx hby hml hown hnm hret hlk hZ hh X0 e0 => ?_
 have N0 := Fr.nil n0
 rw [ef_26_1 m ra0]
 refine og s₁ (mkF m 3 #[vR ra0] [.int 16, .ref ra0]) (fun _ k => qa X0 hx hby d16_0 rfl rfl rfl (qb X0 hx hby d16_1 rfl k)) ?_
 obtain ⟨_, T1, L1, X1, hQ1, st1⟩ := own_sc X0 hx hZ rfl hown (ow hw 105) (ow hw 106) (rm17_6 l Z a0 hw ra0 G1 h0 n0 OLD A' B' C' D' O2 P5 E') (ow hw 110) (ow hw 109) e0 (g := (mkF m 3 #[vR ra0] [.int 16, .ref ra0])) rfl (zs hml) (argsL := [.int 16]) (rest := []) (lenOf pd_0 rfl) rfl (hb hby d16_3) (W := 0) rfl
 obtain ⟨o2, kc3, rfl, Nq1, K1, f4, f5, f6, f7, f8⟩ := hQ1
 have N1 := Fr.app N0 Nq1
 have g9 : n0 ≤ o2 := Nat.le_trans (own_osz OLD) f4
 have z10 : h0.size ≤ o2 := Nat.le_trans (Nat.le_refl _) f4
 refine ot T1 (mkF m 6 #[vR ra0] []) st1 ?_
 have KEEP := ((Keep.refl h0 [ra0]).trans K1 (allS (Or.inl (List.mem_of_getElem? (i := 0) rfl)) all0))
 exact own_leaveN X1 hlk (v := none) (fun _ => rfl) (lb rfl) (lb rfl) (by exact ⟨o2, kc3, rfl, N1, KEEP, z10, f5, f6, f7, f8⟩) (fun fs hr => X1.returnOut hx hret (hb hby d16_6) hr)
abbrev R22_10 : Room := { frames := 0, cells := 0, slots := 0, locals := 0 }
def Q22_10 (Z : State) (ra0 ra1 : Addr) (kc2 : ClassId) (h0 : Heap) (n0 : Nat) (v : Option Value) (h : Heap) (L : List Loc) : Prop := (v = none ∧ Fr n0 L ∧ h = h0)
theorem rm22_10 l Z a0 (hw : HW Z a0) ra0 ra1 kc2 h0 n0 (OLD : Old Z n0 h0) (A' : Exa Z h0 ra0 cN8) (B' : Fld Z h0 ra0 cN4 "coder" "B" (.int 0)) (C' : Fld Z h0 ra0 cN4 "count" "I" (.int 0)) (D' : Fld Z h0 ra0 cN4 "value" "[B" (.ref ra1)) (E' : Arv Z h0 ra1 kc2 .byte (16 : Int32) (own_by ([] : List Int32)) (.int 0)) :
  own_CN l Z y4 jdk_68_method_9_code 3 none [] R22_10 #[.ref ra0, .int 9] h0 (Q22_10 Z ra0 ra1 kc2 h0 n0) := by
 refine own_entryN (plainFor_of_name pn_2) fun p e s m below meth c s₁ hx hby hml hown hnm hret hlk hZ hh X0 e0 => ?_
 have N0 := Fr.nil n0
 rw [ef_22_10 m ra0]
 refine og s₁ (mkF m 1 #[vR ra0, vI 9, vU] [.ref ra0]) (fun _ k => qa X0 hx hby d22_0 rfl rfl rfl k) ?_
 obtain ⟨T1, X1, e1, st1⟩ := qf X0 hx hZ hown (ow hw 115) e0 D' (g := (mkF m 1 #[vR ra0, vI 9, vU] [.ref ra0])) rfl rfl hby d22_1
 refine og T1 (mkF m 4 #[vR ra0, vI 9, vU] [.ref ra1]) st1 ?_
 obtain ⟨cl2, Ar2, -, Sr2, Nr2, -, -⟩ := id E'
 refine og T1 (mkF m 5 #[vR ra0, vI 9, vU] [.int 16]) (fun t k => X1.arraylength hx (by rw [e1]; exact Ar2.1) (State.isArrayOf_alike hZ.alike Ar2.2.1) (g := (mkF m 4 #[vR ra0, vI 9, vU] [.ref ra1])) rfl rfl (hb hby d22_4) t (by rw [len_of Sr2 Nr2]; exact k)) ?_
 refine og T1 (mkF m 6 #[vR ra0, vI 9, vU] [.ref ra0, .int 16]) (fun _ k => qa X1 hx hby d22_5 rfl rfl rfl k) ?_
 obtain ⟨T3, X3, e3, st3⟩ := qf X1 hx hZ hown (ow hw 117) e1 B' (g := (mkF m 6 #[vR ra0, vI 9, vU] [.ref ra0, .int 16])) rfl rfl hby d22_6
 refine og T3 (mkF m 10 #[vR ra0, vI 9, vU] [.int 16]) (fun _ k => st3 _ (XS.ishr X3.here hx rfl (hb hby d22_9) rfl (by rw [show ((16 : Int32) >>> ((0 : Int32) &&& 31)) = (16 : Int32) from by decide]; exact k))) ?_
 refine og T3 (mkF m 38 #[vR ra0, vI 9, vI 16] []) (fun _ k => XS.istoreN X3.here hx rfl (hb hby d22_10) rfl (l' := #[vR ra0, vI 9, vI 16]) rfl (qi X3 hx hby d22_11 rfl rfl (qi X3 hx hby d22_12 rfl rfl (XS.isub X3.here hx rfl (hb hby d22_13) rfl (XS.ifYes X3.here hx rfl (pc0 := 14) (pc' := 38) rfl (hb hby d22_14) rfl ((if0 _ _).trans (flt (by decide : ¬ ((0 : Int32) < (-7 : Int32)))).2.2.2) (by decide) (by decide) k))))) ?_
 exact own_leaveN X3 hlk (v := none) (fun _ => rfl) (lb rfl) (lb rfl) (by rw [e3]; exact ⟨rfl, N0, rfl⟩) (fun fs hr => X3.returnOut hx hret (hb hby d22_38) hr)
abbrev R21_13 : Room := { frames := 0, cells := 0, slots := 0, locals := 0 }
def Q21_13 (Z : State) (ra0 ra1 : Addr) (kc2 : ClassId) (cs3 : List Int32) (G1 : Int32) (h0 : Heap) (n0 : Nat) (v : Option Value) (h : Heap) (L : List Loc) : Prop := (v = some (.int 0) ∧ Fr n0 L ∧ h = h0)
theorem rm21_13 l Z a0 (hw : HW Z a0) ra0 ra1 kc2 (cs3 : List Int32) (G1 : Int32) h0 n0 (OLD : Old Z n0 h0) (A' : Exa Z h0 ra0 cN6) (B' : Fld Z h0 ra0 cN6 "coder" "B" (.int 0)) (C' : Fld Z h0 ra0 cN6 "value" "[B" (.ref ra1)) (D' : cs3.length = 9) (E' : own_L cs3) (F' : Arv Z h0 ra1 kc2 .byte (9 : Int32) (own_by cs3) (.int 0)) (O2 : Sta Z Z.heap cN6 "COMPACT_STRINGS" "Z" (.int G1)) (P5 : ¬ (G1 = (0 : Int32))) :
  own_CN l Z y5 jdk_42_method_152_code 1 (some .byte) [] R21_13 #[.ref ra0] h0 (Q21_13 Z ra0 ra1 kc2 cs3 G1 h0 n0) := by
 refine own_entryN (plainFor_of_name pn_4) fun p e s m below meth c s₁ hx hby hml hown hnm hret hlk hZ hh X0 e0 => ?_
 have N0 := Fr.nil n0
 rw [ef_26_1 m ra0]
 obtain ⟨T1, X1, e1, st1⟩ := getS2 X0 hx hZ hown (host := "") (Or.inl (ow hw 146)) Via.refl e0 (O2.ext OLD.2) (g := (mkF m 0 #[vR ra0] [])) rfl (hb hby d21_0)
 refine og T1 (mkF m 7 #[vR ra0] [.ref ra0]) (fun _ k => st1 _ (XS.ifNo X1.here hx rfl (hb hby d21_3) rfl ((if0 _ _).trans (feq P5).1) (qa X1 hx hby d21_6 rfl rfl rfl k))) ?_
 obtain ⟨T2, X2, e2, st2⟩ := qf X1 hx hZ hown (ow hw 147) e1 B' (g := (mkF m 7 #[vR ra0] [.ref ra0])) rfl rfl hby d21_7
 refine og T2 (mkF m 14 #[vR ra0] [.int 0]) (fun _ k => st2 _ (XS.goto X2.here hx rfl (pc0 := 10) (pc' := 14) rfl (hb hby d21_10) (by decide) (by decide) k)) ?_
 exact own_leaveN X2 hlk (v := some (.int (nar .byte (0 : Int32)))) (own_nr hret) (lb rfl) (lb rfl) (by rw [e2]; exact ⟨rfl, N0, rfl⟩) (fun fs hr => retN X2 hx (t := .byte) hret (by simp) (hb hby d21_14) hr)
abbrev R24_12 : Room := { frames := 1, cells := 0, slots := 0, locals := 13 }
def Q24_12 (Z : State) (ra0 ra1 : Addr) (kc2 : ClassId) (ra3 ra4 : Addr) (kc5 : ClassId) (cs6 : List Int32) (G1 : Int32) (h0 : Heap) (n0 : Nat) (v : Option Value) (h : Heap) (L : List Loc) : Prop := (v = none ∧ Fr n0 L ∧ h = h0)
theorem rm24_12 l Z a0 (hw : HW Z a0) ra0 ra1 kc2 ra3 ra4 kc5 (cs6 : List Int32) (G1 : Int32) h0 n0 (OLD : Old Z n0 h0) (A' : Exa Z h0 ra0 cN8) (B' : Fld Z h0 ra0 cN4 "coder" "B" (.int 0)) (C' : Fld Z h0 ra0 cN4 "count" "I" (.int 0)) (D' : Fld Z h0 ra0 cN4 "value" "[B" (.ref ra1)) (E' : Arv Z h0 ra1 kc2 .byte (16 : Int32) (own_by ([] : List Int32)) (.int 0)) (F' : Exa Z h0 ra3 cN6) (G' : Fld Z h0 ra3 cN6 "coder" "B" (.int 0)) (H' : Fld Z h0 ra3 cN6 "value" "[B" (.ref ra4)) (I' : cs6.length = 9) (J' : own_L cs6) (K' : Arv Z h0 ra4 kc5 .byte (9 : Int32) (own_by cs6) (.int 0)) (O2 : Sta Z Z.heap cN6 "COMPACT_STRINGS" "Z" (.int G1)) (P5 : ¬ (G1 = (0 : Int32))) :
  own_CN l Z y6 jdk_68_method_71_code 2 none [] R24_12 #[.ref ra0, .ref ra3] h0 (Q24_12 Z ra0 ra1 kc2 ra3 ra4 kc5 cs6 G1 h0 n0) := by
 refine own_entryN (plainFor_of_name pn_2) fun p e s m below meth c s₁ hx hby hml hown hnm hret hlk hZ hh X0 e0 => ?_
 have N0 := Fr.nil n0
 rw [ef_24_12 m ra0 ra3]
 obtain ⟨T1, X1, e1, st1⟩ := getS2 X0 hx hZ hown (host := "") (Or.inl (ow hw 112)) Via.refl e0 (O2.ext OLD.2) (g := (mkF m 0 #[vR ra0, vR ra3] [])) rfl (hb hby d24_0)
 refine og T1 (mkF m 7 #[vR ra0, vR ra3] [.ref ra0]) (fun _ k => st1 _ (XS.ifNo X1.here hx rfl (hb hby d24_3) rfl ((if0 _ _).trans (feq P5).1) (qa X1 hx hby d24_6 rfl rfl rfl k))) ?_
 obtain ⟨T2, X2, e2, st2⟩ := qf X1 hx hZ hown (ow hw 117) e1 B' (g := (mkF m 7 #[vR ra0, vR ra3] [.ref ra0])) rfl rfl hby d24_7
 refine og T2 (mkF m 11 #[vR ra0, vR ra3] [.ref ra3, .int 0]) (fun _ k => st2 _ (qa X2 hx hby d24_10 rfl rfl rfl k)) ?_
 obtain ⟨_, T3, L3, X3, hQ3, st3⟩ := own_vc X2 hx hZ hown (ow hw 165) (ow hw 142) (ow hw 144) (ow hw 143) F' (rm21_13 l Z a0 hw ra3 ra4 kc5 cs6 G1 h0 n0 OLD F' G' H' I' J' K' O2 P5) (ow hw 145) (ow hw 113) e2 (g := (mkF m 11 #[vR ra0, vR ra3] [.ref ra3, .int 0])) rfl (zs hml) (argsL := []) (rest := [.int 0]) (lenOf pd_2 rfl) rfl (hb hby d24_11) (W := 1) rfl
 obtain ⟨rfl, Nq3, eq3⟩ := hQ3
 have N3 := Fr.app N0 Nq3
 refine og T3 (mkF m 21 #[vR ra0, vR ra3] []) (fun _ k => st3.trans (XS.icmpYes X3.here hx rfl (pc0 := 14) (pc' := 21) rfl (hb hby d24_14) rfl (teq (by decide : (0 : Int32) = (0 : Int32))).1 (by decide) (by decide) k)) ?_
 exact own_leaveN X3 hlk (v := none) (fun _ => rfl) (lb rfl) (lb rfl) (by rw [eq3]; exact ⟨rfl, N3, rfl⟩) (fun fs hr => X3.returnOut hx hret (hb hby d24_21) hr)
abbrev R25_14 : Room := { frames := 1, cells := 0, slots := 0, locals := 18 }
def Q25_14 (Z : State) (ra0 ra1 : Addr) (kc2 : ClassId) (cs3 : List Int32) (ra4 : Addr) (kc5 : ClassId) (G1 : Int32) (h0 : Heap) (n0 : Nat) (v : Option Value) (h : Heap) (L : List Loc) : Prop := (v = none ∧ Fr n0 L ∧ Keep h0 h [ra4] ∧ Arv Z h ra4 kc5 .byte (16 : Int32) (own_by cs3) (.int 0))
theorem rm25_14 l Z a0 (hw : HW Z a0) ra0 ra1 kc2 (cs3 : List Int32) ra4 kc5 (G1 : Int32) h0 n0 (OLD : Old Z n0 h0) (A' : Exa Z h0 ra0 cN6) (B' : Fld Z h0 ra0 cN6 "coder" "B" (.int 0)) (C' : Fld Z h0 ra0 cN6 "value" "[B" (.ref ra1)) (D' : cs3.length = 9) (E' : own_L cs3) (F' : Arv Z h0 ra1 kc2 .byte (9 : Int32) (own_by cs3) (.int 0)) (G' : Arv Z h0 ra4 kc5 .byte (16 : Int32) (own_by ([] : List Int32)) (.int 0)) (O2 : Sta Z Z.heap cN6 "COMPACT_STRINGS" "Z" (.int G1)) (P5 : ¬ (G1 = (0 : Int32))) (H' : n0 ≤ ra4) :
  own_CN l Z y7 jdk_42_method_147_code 4 none [] R25_14 #[.ref ra0, .ref ra4, .int 0, .int 0] h0 (Q25_14 Z ra0 ra1 kc2 cs3 ra4 kc5 G1 h0 n0) := by
 refine own_entryN (plainFor_of_name pn_4) fun p e s m below meth c s₁ hx hby hml hown hnm hret hlk hZ hh X0 e0 => ?_
 have N0 := Fr.nil n0
 rw [ef_25_14 m ra0 ra4]
 refine og s₁ (mkF m 1 #[vR ra0, vR ra4, vI 0, vI 0] [.ref ra0]) (fun _ k => qa X0 hx hby d25_0 rfl rfl rfl k) ?_
 obtain ⟨_, T1, L1, X1, hQ1, st1⟩ := own_vc X0 hx hZ hown (ow hw 141) (ow hw 142) (ow hw 144) (ow hw 143) A' (rm21_13 l Z a0 hw ra0 ra1 kc2 cs3 G1 h0 n0 OLD A' B' C' D' E' F' O2 P5) (ow hw 145) (ow hw 113) e0 (g := (mkF m 1 #[vR ra0, vR ra4, vI 0, vI 0] [.ref ra0])) rfl (zs hml) (argsL := []) (rest := []) (lenOf pd_2 rfl) rfl (hb hby d25_1) (W := 0) rfl
 obtain ⟨rfl, Nq1, eq1⟩ := hQ1
 have N1 := Fr.app N0 Nq1
 refine og T1 (mkF m 9 #[vR ra0, vR ra4, vI 0, vI 0] [.ref ra0]) (fun _ k => st1.trans (qi X1 hx hby d25_4 rfl rfl (qn X1 hx hby d25_5 rfl rfl (tq 0) (qa X1 hx hby d25_8 rfl rfl rfl k)))) ?_
 obtain ⟨T2, X2, e2, st2⟩ := qf X1 hx hZ hown (ow hw 140) eq1 C' (g := (mkF m 9 #[vR ra0, vR ra4, vI 0, vI 0] [.ref ra0])) rfl rfl hby d25_9
 refine og T2 (mkF m 16 #[vR ra0, vR ra4, vI 0, vI 0] [.int 0, .int 0, .ref ra4, .int 0, .ref ra1]) (fun _ k => st2 _ (qc X2 hx hby d25_12 rfl (qa X2 hx hby d25_13 rfl rfl rfl (qi X2 hx hby d25_14 rfl rfl (qi X2 hx hby d25_15 rfl rfl k))))) ?_
 refine og T2 (mkF m 17 #[vR ra0, vR ra4, vI 0, vI 0] [.int 0, .ref ra4, .int 0, .ref ra1]) (fun _ k => XS.ishl X2.here hx rfl (hb hby d25_16) rfl (by rw [show ((0 : Int32) <<< ((0 : Int32) &&& 31)) = (0 : Int32) from by decide]; exact k)) ?_
 refine og T2 (mkF m 18 #[vR ra0, vR ra4, vI 0, vI 0] [.ref ra0, .int 0, .ref ra4, .int 0, .ref ra1]) (fun _ k => qa X2 hx hby d25_17 rfl rfl rfl k) ?_
 obtain ⟨T3, X3, e3, st3⟩ := qf X2 hx hZ hown (ow hw 140) e2 C' (g := (mkF m 18 #[vR ra0, vR ra4, vI 0, vI 0] [.ref ra0, .int 0, .ref ra4, .int 0, .ref ra1])) rfl rfl hby d25_18
 refine og T3 (mkF m 21 #[vR ra0, vR ra4, vI 0, vI 0] [.ref ra1, .int 0, .ref ra4, .int 0, .ref ra1]) st3 ?_
 obtain ⟨cl4, Ar4, -, Sr4, Nr4, -, -⟩ := id F'
 refine og T3 (mkF m 22 #[vR ra0, vR ra4, vI 0, vI 0] [.int 9, .int 0, .ref ra4, .int 0, .ref ra1]) (fun t k => X3.arraylength hx (by rw [e3]; exact Ar4.1) (State.isArrayOf_alike hZ.alike Ar4.2.1) (g := (mkF m 21 #[vR ra0, vR ra4, vI 0, vI 0] [.ref ra1, .int 0, .ref ra4, .int 0, .ref ra1])) rfl rfl (hb hby d25_21) t (by rw [len_of Sr4 Nr4]; exact k)) ?_
 obtain ⟨T5, h5, L5, X5, e5, N5, K5, Vq5, st5⟩ := own_cpB X3 hx hZ hown (ow hw 171) (ow hw 174) (ow hw 172) (ow hw 173) e3 F' G' (sp := (0 : Int32)) (dp := (0 : Int32)) (nn := (9 : Int32)) rfl (by decide) (by decide) (by decide) (by decide) (show _ = _ from rfl) ((Eq.symm D') ▸ lb rfl) N1 H' (g := (mkF m 22 #[vR ra0, vR ra4, vI 0, vI 0] [.int 9, .int 0, .ref ra4, .int 0, .ref ra1])) rfl (zs hml) rfl (hb hby d25_22) (lb rfl) (W := 0) (lb rfl) (lb rfl)
 have V5 : Arv Z h5 ra4 kc5 .byte (16 : Int32) (own_by cs3) (.int 0) := (by simpa using Vq5)
 refine og T5 (mkF m 43 #[vR ra0, vR ra4, vI 0, vI 0] []) (fun _ k => st5 _ (XS.goto X5.here hx rfl (pc0 := 25) (pc' := 43) rfl (hb hby d25_25) (by decide) (by decide) k)) ?_
 have KEEP := ((Keep.refl h0 [ra4]).trans K5 (allS (Or.inl (List.mem_of_getElem? (i := 0) rfl)) all0))
 exact own_leaveN X5 hlk (v := none) (fun _ => rfl) (lb rfl) (lb rfl) (by rw [e5]; exact ⟨rfl, N5, KEEP, V5⟩) (fun fs hr => X5.returnOut hx hret (hb hby d25_43) hr)
abbrev R23_11 : Room := { frames := 2, cells := 0, slots := 0, locals := 33 }
def Q23_11 (Z : State) (ra0 ra1 : Addr) (kc2 : ClassId) (ra3 ra4 : Addr) (kc5 : ClassId) (cs6 : List Int32) (G1 : Int32) (h0 : Heap) (n0 : Nat) (v : Option Value) (h : Heap) (L : List Loc) : Prop := (v = none ∧ Fr n0 L ∧ Keep h0 h [ra1] ∧ Arv Z h ra1 kc2 .byte (16 : Int32) (own_by cs6) (.int 0))
theorem rm23_11 l Z a0 (hw : HW Z a0) ra0 ra1 kc2 ra3 ra4 kc5 (cs6 : List Int32) (G1 : Int32) h0 n0 (OLD : Old Z n0 h0) (A' : Exa Z h0 ra0 cN8) (B' : Fld Z h0 ra0 cN4 "coder" "B" (.int 0)) (C' : Fld Z h0 ra0 cN4 "count" "I" (.int 0)) (D' : Fld Z h0 ra0 cN4 "value" "[B" (.ref ra1)) (E' : Arv Z h0 ra1 kc2 .byte (16 : Int32) (own_by ([] : List Int32)) (.int 0)) (F' : Exa Z h0 ra3 cN6) (G' : Fld Z h0 ra3 cN6 "coder" "B" (.int 0)) (H' : Fld Z h0 ra3 cN6 "value" "[B" (.ref ra4)) (I' : cs6.length = 9) (J' : own_L cs6) (K' : Arv Z h0 ra4 kc5 .byte (9 : Int32) (own_by cs6) (.int 0)) (O2 : Sta Z Z.heap cN6 "COMPACT_STRINGS" "Z" (.int G1)) (P5 : ¬ (G1 = (0 : Int32))) (L' : n0 ≤ ra1) :
  own_CN l Z y8 jdk_68_method_73_code 3 none [] R23_11 #[.ref ra0, .int 0, .ref ra3] h0 (Q23_11 Z ra0 ra1 kc2 ra3 ra4 kc5 cs6 G1 h0 n0) := by
 refine own_entryN (plainFor_of_name pn_2) fun p e s m below meth c s₁ hx hby hml hown hnm hret hlk hZ hh X0 e0 => ?_
 have N0 := Fr.nil n0
 rw [ef_23_11 m ra0 ra3]
 refine og s₁ (mkF m 2 #[vR ra0, vI 0, vR ra3] [.ref ra3, .ref ra0]) (fun _ k => qa X0 hx hby d23_0 rfl rfl rfl (qa X0 hx hby d23_1 rfl rfl rfl k)) ?_
 obtain ⟨_, T1, L1, X1, hQ1, st1⟩ := own_pc X0 hx hZ hown (ow hw 160) (ow hw 163) (ow hw 161) (ow hw 162) A' (rm24_12 l Z a0 hw ra0 ra1 kc2 ra3 ra4 kc5 cs6 G1 h0 n0 OLD A' B' C' D' E' F' G' H' I' J' K' O2 P5) (ow hw 164) (ow hw 109) e0 (g := (mkF m 2 #[vR ra0, vI 0, vR ra3] [.ref ra3, .ref ra0])) rfl (zs hml) (argsL := [.ref ra3]) (rest := []) (lenOf pd_3 rfl) rfl (hb hby d23_2) (W := 0) rfl
 obtain ⟨rfl, Nq1, eq1⟩ := hQ1
 have N1 := Fr.app N0 Nq1
 refine og T1 (mkF m 7 #[vR ra0, vI 0, vR ra3] [.ref ra0, .ref ra3]) (fun _ k => st1.trans (qa X1 hx hby d23_5 rfl rfl rfl (qa X1 hx hby d23_6 rfl rfl rfl k))) ?_
 obtain ⟨T2, X2, e2, st2⟩ := qf X1 hx hZ hown (ow hw 115) eq1 D' (g := (mkF m 7 #[vR ra0, vI 0, vR ra3] [.ref ra0, .ref ra3])) rfl rfl hby d23_7
 refine og T2 (mkF m 12 #[vR ra0, vI 0, vR ra3] [.ref ra0, .int 0, .ref ra1, .ref ra3]) (fun _ k => st2 _ (qi X2 hx hby d23_10 rfl rfl (qa X2 hx hby d23_11 rfl rfl rfl k))) ?_
 obtain ⟨T3, X3, e3, st3⟩ := qf X2 hx hZ hown (ow hw 117) e2 B' (g := (mkF m 12 #[vR ra0, vI 0, vR ra3] [.ref ra0, .int 0, .ref ra1, .ref ra3])) rfl rfl hby d23_12
 refine og T3 (mkF m 15 #[vR ra0, vI 0, vR ra3] [.int 0, .int 0, .ref ra1, .ref ra3]) st3 ?_
 obtain ⟨_, T4, L4, X4, hQ4, st4⟩ := own_vc X3 hx hZ hown (ow hw 166) (ow hw 167) (ow hw 169) (ow hw 168) F' (rm25_14 l Z a0 hw ra3 ra4 kc5 cs6 ra1 kc2 G1 h0 n0 OLD F' G' H' I' J' K' E' O2 P5 L') (ow hw 170) (ow hw 113) e3 (g := (mkF m 15 #[vR ra0, vI 0, vR ra3] [.int 0, .int 0, .ref ra1, .ref ra3])) rfl (zs hml) (argsL := [.ref ra1, .int 0, .int 0]) (rest := []) (lenOf pd_4 rfl) rfl (hb hby d23_15) (W := 0) rfl
 obtain ⟨rfl, Nq4, K4, f5⟩ := hQ4
 have N4 := Fr.app N1 Nq4
 refine ot T4 (mkF m 18 #[vR ra0, vI 0, vR ra3] []) st4 ?_
 have KEEP := ((Keep.refl h0 [ra1]).trans K4 (allS (Or.inl (List.mem_of_getElem? (i := 0) rfl)) all0))
 exact own_leaveN X4 hlk (v := none) (fun _ => rfl) (lb rfl) (lb rfl) (by exact ⟨rfl, N4, KEEP, f5⟩) (fun fs hr => X4.returnOut hx hret (hb hby d23_18) hr)
abbrev R19_9 : Room := { frames := 3, cells := 0, slots := 0, locals := 47 }
def Q19_9 (Z : State) (ra0 ra1 : Addr) (kc2 : ClassId) (ra3 ra4 : Addr) (kc5 : ClassId) (cs6 : List Int32) (G1 : Int32) (h0 : Heap) (n0 : Nat) (v : Option Value) (h : Heap) (L : List Loc) : Prop := (v = some (.ref ra0) ∧ Fr n0 L ∧ Keep h0 h [ra1, ra0] ∧ Arv Z h ra1 kc2 .byte (16 : Int32) (own_by cs6) (.int 0) ∧ Fld Z h ra0 cN4 "coder" "B" (.int 0) ∧ Fld Z h ra0 cN4 "count" "I" (.int 9) ∧ Fld Z h ra0 cN4 "value" "[B" (.ref ra1))
theorem rm19_9 l Z a0 (hw : HW Z a0) ra0 ra1 kc2 ra3 ra4 kc5 (cs6 : List Int32) (G1 : Int32) h0 n0 (OLD : Old Z n0 h0) (A' : Exa Z h0 ra0 cN8) (B' : Fld Z h0 ra0 cN4 "coder" "B" (.int 0)) (C' : Fld Z h0 ra0 cN4 "count" "I" (.int 0)) (D' : Fld Z h0 ra0 cN4 "value" "[B" (.ref ra1)) (E' : Arv Z h0 ra1 kc2 .byte (16 : Int32) (own_by ([] : List Int32)) (.int 0)) (F' : Exa Z h0 ra3 cN6) (G' : Fld Z h0 ra3 cN6 "coder" "B" (.int 0)) (H' : Fld Z h0 ra3 cN6 "value" "[B" (.ref ra4)) (I' : cs6.length = 9) (J' : own_L cs6) (K' : Arv Z h0 ra4 kc5 .byte (9 : Int32) (own_by cs6) (.int 0)) (O2 : Sta Z Z.heap cN6 "COMPACT_STRINGS" "Z" (.int G1)) (P5 : ¬ (G1 = (0 : Int32))) (L' : n0 ≤ ra1) (ne_ra0_ra1 : ra0 ≠ ra1) (M' : n0 ≤ ra0) :
  own_CN l Z y9 jdk_68_method_22_code 3 (some (.object cN4)) [] R19_9 #[.ref ra0, .ref ra3] h0 (Q19_9 Z ra0 ra1 kc2 ra3 ra4 kc5 cs6 G1 h0 n0) := by
 refine own_entryN (plainFor_of_name pn_2) fun p e s m below meth c s₁ hx hby hml hown hnm hret hlk hZ hh X0 e0 => ?_
 have N0 := Fr.nil n0
 rw [ef_19_9 m ra0 ra3]
 refine og s₁ (mkF m 10 #[vR ra0, vR ra3, vU] [.ref ra3]) (fun _ k => qa X0 hx hby d19_0 rfl rfl rfl (XS.ifnonnullYes X0.here hx rfl (pc0 := 1) (pc' := 9) rfl (hb hby d19_1) rfl (by decide) (by decide) (qa X0 hx hby d19_9 rfl rfl rfl k))) ?_
 obtain ⟨T1, X1, e1, st1⟩ := own_lenA X0 hx hZ hown (ow hw 135) hw F' H' G' K' I' J' e0 (O2.ext OLD.2) P5 (g := (mkF m 10 #[vR ra0, vR ra3, vU] [.ref ra3])) rfl (zs hml) (rest := []) rfl (hb hby d19_10) (W := 0) rfl
 refine og T1 (mkF m 16 #[vR ra0, vR ra3, vI 9] [.ref ra0, .ref ra0]) (fun _ k => st1 _ (XS.istoreN X1.here hx rfl (hb hby d19_13) rfl (l' := #[vR ra0, vR ra3, vI 9]) rfl (qa X1 hx hby d19_14 rfl rfl rfl (qa X1 hx hby d19_15 rfl rfl rfl k)))) ?_
 obtain ⟨T2, X2, e2, st2⟩ := qf X1 hx hZ hown (ow hw 148) e1 C' (g := (mkF m 16 #[vR ra0, vR ra3, vI 9] [.ref ra0, .ref ra0])) rfl rfl hby d19_16
 refine og T2 (mkF m 21 #[vR ra0, vR ra3, vI 9] [.int 9, .ref ra0]) (fun _ k => st2 _ (qi X2 hx hby d19_19 rfl rfl (qp X2 hx hby d19_20 rfl rfl k))) ?_
 obtain ⟨_, T3, L3, X3, hQ3, st3⟩ := own_pc X2 hx hZ hown (ow hw 150) (ow hw 153) (ow hw 151) (ow hw 152) A' (rm22_10 l Z a0 hw ra0 ra1 kc2 h0 n0 OLD A' B' C' D' E') (ow hw 154) (ow hw 109) e2 (g := (mkF m 21 #[vR ra0, vR ra3, vI 9] [.int 9, .ref ra0])) rfl (zs hml) (argsL := [.int 9]) (rest := []) (lenOf pd_0 rfl) rfl (hb hby d19_21) (W := 0) rfl
 obtain ⟨rfl, Nq3, eq3⟩ := hQ3
 have N3 := Fr.app N0 Nq3
 refine og T3 (mkF m 26 #[vR ra0, vR ra3, vI 9] [.ref ra0, .ref ra0]) (fun _ k => st3.trans (qa X3 hx hby d19_24 rfl rfl rfl (qa X3 hx hby d19_25 rfl rfl rfl k))) ?_
 obtain ⟨T4, X4, e4, st4⟩ := qf X3 hx hZ hown (ow hw 148) eq3 C' (g := (mkF m 26 #[vR ra0, vR ra3, vI 9] [.ref ra0, .ref ra0])) rfl rfl hby d19_26
 refine og T4 (mkF m 30 #[vR ra0, vR ra3, vI 9] [.ref ra3, .int 0, .ref ra0]) (fun _ k => st4 _ (qa X4 hx hby d19_29 rfl rfl rfl k)) ?_
 obtain ⟨_, T5, L5, X5, hQ5, st5⟩ := own_pc X4 hx hZ hown (ow hw 155) (ow hw 158) (ow hw 156) (ow hw 157) A' (rm23_11 l Z a0 hw ra0 ra1 kc2 ra3 ra4 kc5 cs6 G1 h0 n0 OLD A' B' C' D' E' F' G' H' I' J' K' O2 P5 L') (ow hw 159) (ow hw 109) e4 (g := (mkF m 30 #[vR ra0, vR ra3, vI 9] [.ref ra3, .int 0, .ref ra0])) rfl (zs hml) (argsL := [.int 0, .ref ra3]) (rest := []) (lenOf pd_5 rfl) rfl (hb hby d19_30) (W := 0) rfl
 obtain ⟨rfl, Nq5, K5, f6⟩ := hQ5
 have N5 := Fr.app N3 Nq5
 refine og T5 (mkF m 35 #[vR ra0, vR ra3, vI 9] [.ref ra0, .ref ra0]) (fun _ k => st5.trans (qa X5 hx hby d19_33 rfl rfl rfl (XS.dup X5.here hx rfl (hb hby d19_34) rfl rfl k))) ?_
 have F7 := (C'.keep K5 (ninS ne_ra0_ra1 nin0))
 obtain ⟨T8, X8, e8, st8⟩ := qf X5 hx hZ hown (ow hw 148) rfl F7 (g := (mkF m 35 #[vR ra0, vR ra3, vI 9] [.ref ra0, .ref ra0])) rfl rfl hby d19_35
 refine og T8 (mkF m 40 #[vR ra0, vR ra3, vI 9] [.int 9, .ref ra0]) (fun _ k => st8 _ (qi X8 hx hby d19_38 rfl rfl (qp X8 hx hby d19_39 rfl rfl k))) ?_
 have F9 := (A'.keep K5)
 obtain ⟨T10, h10, X10, e10, W10, st10⟩ := putF X8 hx hZ hown (host := "") (Or.inl (ow hw 148)) Via.refl e8 F7 F9 (Or.inl (ow hw 149)) (ow hw 100) (ty := .int) (by decide) rfl rfl (g := (mkF m 40 #[vR ra0, vR ra3, vI 9] [.int 9, .ref ra0])) rfl rfl (hb hby d19_40)
 have Fw10 := F7.same W10
 have N10 := Fr.snoc X10 N5 M'
 refine og T10 (mkF m 44 #[vR ra0, vR ra3, vI 9] [.ref ra0]) (fun _ k => st10 _ (qa X10 hx hby d19_43 rfl rfl rfl k)) ?_
 have F11 := (f6.other W10 (Ne.symm ne_ra0_ra1))
 have F12 := ((B'.keep K5 (ninS ne_ra0_ra1 nin0)).other W10 (Or.inr (slot_ne (Or.inl (ow hw 118)) (Or.inl (ow hw 149)) (by decide) (t := .byte) (t' := .int) (by decide) (by decide))))
 have F13 := ((D'.keep K5 (ninS ne_ra0_ra1 nin0)).other W10 (Or.inr (slot_ne (Or.inl (ow hw 116)) (Or.inl (ow hw 149)) (by decide) (t := (.array .byte)) (t' := .int) (by decide) (by decide))))
 have KEEP := (((Keep.refl h0 [ra1, ra0]).trans K5 (allS (Or.inl (List.mem_of_getElem? (i := 0) rfl)) all0)).wr W10 (Or.inl (List.mem_of_getElem? (i := 1) rfl)))
 exact own_leaveN X10 hlk (v := some (.ref ra0)) (own_nr hret) (lb rfl) (lb rfl) (by rw [e10]; exact ⟨rfl, N10, KEEP, F11, F12, Fw10, F13⟩) (own_ra X10 hx hret rfl rfl rfl (hb hby d19_44))
abbrev R18_8 : Room := { frames := 4, cells := 0, slots := 0, locals := 61 }
def Q18_8 (Z : State) (ra0 ra1 : Addr) (kc2 : ClassId) (ra3 ra4 : Addr) (kc5 : ClassId) (cs6 : List Int32) (G1 : Int32) (h0 : Heap) (n0 : Nat) (v : Option Value) (h : Heap) (L : List Loc) : Prop := (v = some (.ref ra0) ∧ Fr n0 L ∧ Keep h0 h [ra1, ra0] ∧ Arv Z h ra1 kc2 .byte (16 : Int32) (own_by cs6) (.int 0) ∧ Fld Z h ra0 cN4 "coder" "B" (.int 0) ∧ Fld Z h ra0 cN4 "count" "I" (.int 9) ∧ Fld Z h ra0 cN4 "value" "[B" (.ref ra1))
theorem rm18_8 l Z a0 (hw : HW Z a0) ra0 ra1 kc2 ra3 ra4 kc5 (cs6 : List Int32) (G1 : Int32) h0 n0 (OLD : Old Z n0 h0) (A' : Exa Z h0 ra0 cN8) (B' : Fld Z h0 ra0 cN4 "coder" "B" (.int 0)) (C' : Fld Z h0 ra0 cN4 "count" "I" (.int 0)) (D' : Fld Z h0 ra0 cN4 "value" "[B" (.ref ra1)) (E' : Arv Z h0 ra1 kc2 .byte (16 : Int32) (own_by ([] : List Int32)) (.int 0)) (F' : Exa Z h0 ra3 cN6) (G' : Fld Z h0 ra3 cN6 "coder" "B" (.int 0)) (H' : Fld Z h0 ra3 cN6 "value" "[B" (.ref ra4)) (I' : cs6.length = 9) (J' : own_L cs6) (K' : Arv Z h0 ra4 kc5 .byte (9 : Int32) (own_by cs6) (.int 0)) (O2 : Sta Z Z.heap cN6 "COMPACT_STRINGS" "Z" (.int G1)) (P5 : ¬ (G1 = (0 : Int32))) (L' : n0 ≤ ra1) (ne_ra0_ra1 : ra0 ≠ ra1) (M' : n0 ≤ ra0) :
  own_CN l Z y10 jdk_67_method_7_code 2 (some (.object cN8)) [] R18_8 #[.ref ra0, .ref ra3] h0 (Q18_8 Z ra0 ra1 kc2 ra3 ra4 kc5 cs6 G1 h0 n0) := by
 refine own_entryN (plainFor_of_name pn_3) fun p e s m below meth c s₁ hx hby hml hown hnm hret hlk hZ hh X0 e0 => ?_
 have N0 := Fr.nil n0
 rw [ef_24_12 m ra0 ra3]
 refine og s₁ (mkF m 2 #[vR ra0, vR ra3] [.ref ra3, .ref ra0]) (fun _ k => qa X0 hx hby d18_0 rfl rfl rfl (qa X0 hx hby d18_1 rfl rfl rfl k)) ?_
 obtain ⟨_, _, ⟨T2, L2, k2, n2⟩, -, X2, ⟨Lc2, hQ2, l2, y2, z2⟩, st2⟩ := superBack X0 hx hZ (y := y9) hown (ow hw 130) (own_same (z := y4) (ow hw 153) (ow hw 131) rfl (by decide)) (ow hw 131) (ow hw 132) (by decide) (backOf (W := 0) (rm19_9 l Z a0 hw ra0 ra1 kc2 ra3 ra4 kc5 cs6 G1 h0 n0 OLD A' B' C' D' E' F' G' H' I' J' K' O2 P5 L' ne_ra0_ra1 M') hZ (ow hw 134) (ow hw 109) (lb rfl) (lb rfl)) e0 (Ins.self A') (g := (mkF m 2 #[vR ra0, vR ra3] [.ref ra3, .ref ra0])) rfl (zs hml) (ow hw 134) (argsL := [.ref ra3]) (rest := []) (lenOf pd_6 rfl) rfl (lb rfl) (hb hby d18_2) (fun _ _ => ⟨rfl, e0, (lb rfl), (lb rfl)⟩)
 dsimp only [Pt.U, Pt.locs, Pt.cells, Pt.slots] at X2 l2 y2 z2 st2 hQ2
 subst l2 y2 z2
 obtain ⟨rfl, Nq2, K2, f3, f4, f5, f6⟩ := hQ2
 have N2 := Fr.app N0 Nq2
 refine og T2 (mkF m 7 #[vR ra0, vR ra3] [.ref ra0]) (fun _ k => st2.trans (XS.pop X2.here hx rfl (hb hby d18_5) rfl rfl (qa X2 hx hby d18_6 rfl rfl rfl k))) ?_
 have KEEP := ((Keep.refl h0 [ra1, ra0]).trans K2 (allS (Or.inl (List.mem_of_getElem? (i := 0) rfl)) (allS (Or.inl (List.mem_of_getElem? (i := 1) rfl)) all0)))
 exact own_leaveN X2 hlk (v := some (.ref ra0)) (own_nr hret) (lb rfl) (lb rfl) (by exact ⟨rfl, N2, KEEP, f3, f4, f5, f6⟩) (own_ra X2 hx hret rfl rfl rfl (hb hby d18_7))
abbrev R29_17 : Room := { frames := 0, cells := 0, slots := 0, locals := 0 }
def Q29_17 (Z : State) (ci0 : Int32) (h0 : Heap) (n0 : Nat) (v : Option Value) (h : Heap) (L : List Loc) : Prop := (v = some (.int 1) ∧ Fr n0 L ∧ h = h0)
theorem rm29_17 l Z a0 (hw : HW Z a0) (ci0 : Int32) h0 n0 (OLD : Old Z n0 h0) (hk0 : ¬ (ci0 < (0 : Int32))) (hk1 : (-10 : Int32) < (-ci0)) (hk2 : (-100 : Int32) < (-ci0)) (hk3 : ¬ ((-ci0) < (-9 : Int32))) :
  own_CN l Z y11 jdk_33_method_13_code 4 (some .int) [] R29_17 #[.int ci0] h0 (Q29_17 Z ci0 h0 n0) := by
 refine own_entryN (plainFor_of_name pn_5) fun p e s m below meth c s₁ hx hby hml hown hnm hret hlk hZ hh X0 e0 => ?_
 have N0 := Fr.nil n0
 rw [ef_29_17 m ci0]
 refine og s₁ (mkF m 13 #[vI (-ci0), vI 0, vU, vU] [(.int (-10 : Int32))]) (fun _ k => qc X0 hx hby d29_0 rfl (XS.istoreN X0.here hx rfl (hb hby d29_1) rfl (l' := #[vI ci0, vI 1, vU, vU]) rfl (qi X0 hx hby d29_2 rfl rfl (XS.ifNo X0.here hx rfl (hb hby d29_3) rfl ((if0 _ _).trans (flt hk0).1) (qc X0 hx hby d29_6 rfl (XS.istoreN X0.here hx rfl (hb hby d29_7) rfl (l' := #[vI ci0, vI 0, vU, vU]) rfl (qi X0 hx hby d29_8 rfl rfl (XS.ineg X0.here hx rfl (hb hby d29_9) rfl (XS.istoreN X0.here hx rfl (hb hby d29_10) rfl (l' := #[vI (-ci0), vI 0, vU, vU]) rfl (qb X0 hx hby d29_11 rfl k)))))))))) ?_
 refine og s₁ (mkF m 28 #[vI (-ci0), vI 0, vI (-10 : Int32), vI 1] [.int 1]) (fun _ k => XS.istoreN X0.here hx rfl (hb hby d29_13) rfl (l' := #[vI (-ci0), vI 0, vI (-10 : Int32), vU]) rfl (qc X0 hx hby d29_14 rfl (XS.istoreN X0.here hx rfl (hb hby d29_15) rfl (l' := #[vI (-ci0), vI 0, vI (-10 : Int32), vI 1]) rfl (qi X0 hx hby d29_16 rfl rfl (qb X0 hx hby d29_17 rfl (qn X0 hx hby d29_19 rfl rfl (tlt (by decide : (1 : Int32) < (10 : Int32))).2.1 (qi X0 hx hby d29_22 rfl rfl (qi X0 hx hby d29_23 rfl rfl (qn X0 hx hby d29_24 rfl rfl (tlt hk1).2.2.2 (qi X0 hx hby d29_27 rfl rfl k)))))))))) ?_
 refine og s₁ (mkF m 30 #[vI (-ci0), vI 0, vI (-10 : Int32), vI 1] [.int 1]) (fun _ k => qi X0 hx hby d29_28 rfl rfl (qp X0 hx hby d29_29 rfl rfl k)) ?_
 exact own_leaveN X0 hlk (v := some (.int 1)) (own_nr hret) (lb rfl) (lb rfl) (by rw [e0]; exact ⟨rfl, N0, rfl⟩) (fun fs hr => retI X0 hx hret (hb hby d29_30) hr)
abbrev R22_18 : Room := { frames := 0, cells := 0, slots := 0, locals := 0 }
def Q22_18 (Z : State) (ra0 ra1 : Addr) (kc2 : ClassId) (cs3 : List Int32) (h0 : Heap) (n0 : Nat) (v : Option Value) (h : Heap) (L : List Loc) : Prop := (v = none ∧ Fr n0 L ∧ h = h0)
theorem rm22_18 l Z a0 (hw : HW Z a0) ra0 ra1 kc2 (cs3 : List Int32) h0 n0 (OLD : Old Z n0 h0) (A' : Exa Z h0 ra0 cN8) (B' : Fld Z h0 ra0 cN4 "coder" "B" (.int 0)) (C' : Fld Z h0 ra0 cN4 "count" "I" (.int 9)) (D' : Fld Z h0 ra0 cN4 "value" "[B" (.ref ra1)) (E' : cs3.length = 9) (F' : own_L cs3) (G' : Arv Z h0 ra1 kc2 .byte (16 : Int32) (own_by cs3) (.int 0)) :
  own_CN l Z y4 jdk_68_method_9_code 3 none [] R22_18 #[.ref ra0, .int 10] h0 (Q22_18 Z ra0 ra1 kc2 cs3 h0 n0) := by
 refine own_entryN (plainFor_of_name pn_2) fun p e s m below meth c s₁ hx hby hml hown hnm hret hlk hZ hh X0 e0 => ?_
 have N0 := Fr.nil n0
 rw [ef_22_18 m ra0]
 refine og s₁ (mkF m 1 #[vR ra0, vI 10, vU] [.ref ra0]) (fun _ k => qa X0 hx hby d22_0 rfl rfl rfl k) ?_
 obtain ⟨T1, X1, e1, st1⟩ := qf X0 hx hZ hown (ow hw 115) e0 D' (g := (mkF m 1 #[vR ra0, vI 10, vU] [.ref ra0])) rfl rfl hby d22_1
 refine og T1 (mkF m 4 #[vR ra0, vI 10, vU] [.ref ra1]) st1 ?_
 obtain ⟨cl2, Ar2, -, Sr2, Nr2, -, -⟩ := id G'
 refine og T1 (mkF m 5 #[vR ra0, vI 10, vU] [.int 16]) (fun t k => X1.arraylength hx (by rw [e1]; exact Ar2.1) (State.isArrayOf_alike hZ.alike Ar2.2.1) (g := (mkF m 4 #[vR ra0, vI 10, vU] [.ref ra1])) rfl rfl (hb hby d22_4) t (by rw [len_of Sr2 Nr2]; exact k)) ?_
 refine og T1 (mkF m 6 #[vR ra0, vI 10, vU] [.ref ra0, .int 16]) (fun _ k => qa X1 hx hby d22_5 rfl rfl rfl k) ?_
 obtain ⟨T3, X3, e3, st3⟩ := qf X1 hx hZ hown (ow hw 117) e1 B' (g := (mkF m 6 #[vR ra0, vI 10, vU] [.ref ra0, .int 16])) rfl rfl hby d22_6
 refine og T3 (mkF m 10 #[vR ra0, vI 10, vU] [.int 16]) (fun _ k => st3 _ (XS.ishr X3.here hx rfl (hb hby d22_9) rfl (by rw [show ((16 : Int32) >>> ((0 : Int32) &&& 31)) = (16 : Int32) from by decide]; exact k))) ?_
 refine og T3 (mkF m 38 #[vR ra0, vI 10, vI 16] []) (fun _ k => XS.istoreN X3.here hx rfl (hb hby d22_10) rfl (l' := #[vR ra0, vI 10, vI 16]) rfl (qi X3 hx hby d22_11 rfl rfl (qi X3 hx hby d22_12 rfl rfl (XS.isub X3.here hx rfl (hb hby d22_13) rfl (XS.ifYes X3.here hx rfl (pc0 := 14) (pc' := 38) rfl (hb hby d22_14) rfl ((if0 _ _).trans (flt (by decide : ¬ ((0 : Int32) < (-6 : Int32)))).2.2.2) (by decide) (by decide) k))))) ?_
 exact own_leaveN X3 hlk (v := none) (fun _ => rfl) (lb rfl) (lb rfl) (by rw [e3]; exact ⟨rfl, N0, rfl⟩) (fun fs hr => X3.returnOut hx hret (hb hby d22_38) hr)
abbrev R30_19 : Room := { frames := 0, cells := 0, slots := 0, locals := 0 }
def Q30_19 (Z : State) (ra0 ra1 : Addr) (kc2 : ClassId) (cs3 : List Int32) (G1 : Int32) (h0 : Heap) (n0 : Nat) (v : Option Value) (h : Heap) (L : List Loc) : Prop := (v = some (.int 1) ∧ Fr n0 L ∧ h = h0)
theorem rm30_19 l Z a0 (hw : HW Z a0) ra0 ra1 kc2 (cs3 : List Int32) (G1 : Int32) h0 n0 (OLD : Old Z n0 h0) (A' : Exa Z h0 ra0 cN8) (B' : Fld Z h0 ra0 cN4 "coder" "B" (.int 0)) (C' : Fld Z h0 ra0 cN4 "count" "I" (.int 9)) (D' : Fld Z h0 ra0 cN4 "value" "[B" (.ref ra1)) (E' : cs3.length = 9) (F' : own_L cs3) (G' : Arv Z h0 ra1 kc2 .byte (16 : Int32) (own_by cs3) (.int 0)) (O2 : Sta Z Z.heap cN6 "COMPACT_STRINGS" "Z" (.int G1)) (P5 : ¬ (G1 = (0 : Int32))) :
  own_CN l Z y12 jdk_68_method_68_code 1 (some .boolean) [] R30_19 #[.ref ra0] h0 (Q30_19 Z ra0 ra1 kc2 cs3 G1 h0 n0) := by
 refine own_entryN (plainFor_of_name pn_2) fun p e s m below meth c s₁ hx hby hml hown hnm hret hlk hZ hh X0 e0 => ?_
 have N0 := Fr.nil n0
 rw [ef_26_1 m ra0]
 obtain ⟨T1, X1, e1, st1⟩ := getS2 X0 hx hZ hown (host := "") (Or.inl (ow hw 112)) Via.refl e0 (O2.ext OLD.2) (g := (mkF m 0 #[vR ra0] [])) rfl (hb hby d30_0)
 refine og T1 (mkF m 7 #[vR ra0] [.ref ra0]) (fun _ k => st1 _ (XS.ifNo X1.here hx rfl (hb hby d30_3) rfl ((if0 _ _).trans (feq P5).1) (qa X1 hx hby d30_6 rfl rfl rfl k))) ?_
 obtain ⟨T2, X2, e2, st2⟩ := qf X1 hx hZ hown (ow hw 117) e1 B' (g := (mkF m 7 #[vR ra0] [.ref ra0])) rfl rfl hby d30_7
 refine og T2 (mkF m 18 #[vR ra0] [.int 1]) (fun _ k => st2 _ (XS.ifNo X2.here hx rfl (hb hby d30_10) rfl ((if0 _ _).trans (tq 0)) (qc X2 hx hby d30_13 rfl (XS.goto X2.here hx rfl (pc0 := 14) (pc' := 18) rfl (hb hby d30_14) (by decide) (by decide) k)))) ?_
 exact own_leaveN X2 hlk (v := some (.int (nar .boolean (1 : Int32)))) (own_nr hret) (lb rfl) (lb rfl) (by rw [e2]; exact ⟨rfl, N0, rfl⟩) (fun fs hr => retN X2 hx (t := .boolean) hret (by simp) (hb hby d30_18) hr)
abbrev R31_20 : Room := { frames := 0, cells := 0, slots := 0, locals := 0 }
def Q31_20 (Z : State) (ci0 : Int32) (ra1 : Addr) (kc2 : ClassId) (cs3 : List Int32) (dg : Addr) (kdg : ClassId) (h0 : Heap) (n0 : Nat) (v : Option Value) (h : Heap) (L : List Loc) : Prop := (v = some (.int 9) ∧ Fr n0 L ∧ Keep h0 h [ra1] ∧ Arv Z h ra1 kc2 .byte (16 : Int32) (own_by (cs3 ++ ([(48 + ci0)] : List Int32))) (.int 0))
theorem rm31_20 l Z a0 (hw : HW Z a0) (ci0 : Int32) ra1 kc2 (cs3 : List Int32) dg kdg h0 n0 (OLD : Old Z n0 h0) (A' : cs3.length = 9) (B' : own_L cs3) (C' : Arv Z h0 ra1 kc2 .byte (16 : Int32) (own_by cs3) (.int 0)) (hk3 : ¬ (ci0 < (0 : Int32))) (hk4 : (-10 : Int32) < (-ci0)) (hk5 : (-100 : Int32) < (-ci0)) (hk6 : ¬ ((-ci0) < (-9 : Int32))) (SG0 : Sta Z Z.heap "java/lang/Integer" "DigitOnes" "[B" (.ref dg)) (VG0 : Arv Z Z.heap dg kdg .byte (100 : Int32) own_dig (.int 0)) (D' : n0 ≤ ra1) :
  own_CN l Z y13 jdk_33_method_12_code 7 (some .int) [] R31_20 #[.int ci0, .int 10, .ref ra1] h0 (Q31_20 Z ci0 ra1 kc2 cs3 dg kdg h0 n0) := by
 refine own_entryN (plainFor_of_name pn_5) fun p e s m below meth c s₁ hx hby hml hown hnm hret hlk hZ hh X0 e0 => ?_
 have N0 := Fr.nil n0
 rw [ef_31_20 m ci0 ra1]
 refine og s₁ (mkF m 21 #[vI ci0, vI 10, vR ra1, vU, vU, vI 10, vI 0] [(.int (-ci0))]) (fun _ k => qi X0 hx hby d31_0 rfl rfl (XS.istore X0.here hx rfl (hb hby d31_1) rfl (l' := #[vI ci0, vI 10, vR ra1, vU, vU, vI 10, vU]) rfl (qi X0 hx hby d31_3 rfl rfl (XS.ifYes X0.here hx rfl (pc0 := 4) (pc' := 11) rfl (hb hby d31_4) rfl ((if0 _ _).trans (flt hk3).2.1) (by decide) (by decide) (qc X0 hx hby d31_11 rfl (XS.istore X0.here hx rfl (hb hby d31_12) rfl (l' := #[vI ci0, vI 10, vR ra1, vU, vU, vI 10, vI 0]) rfl (XS.iload X0.here hx rfl (hb hby d31_14) rfl (XS.ifNo X0.here hx rfl (hb hby d31_16) rfl ((if0 _ _).trans (tq 0)) (qi X0 hx hby d31_19 rfl rfl (XS.ineg X0.here hx rfl (hb hby d31_20) rfl k)))))))))) ?_
 refine og s₁ (mkF m 78 #[vI (-ci0), vI 10, vR ra1, vU, vU, vI 9, vI 0] [.int 9, .ref ra1]) (fun _ k => XS.istoreN X0.here hx rfl (hb hby d31_21) rfl (l' := #[vI (-ci0), vI 10, vR ra1, vU, vU, vI 10, vI 0]) rfl (qi X0 hx hby d31_22 rfl rfl (qb X0 hx hby d31_23 rfl (XS.icmpYes X0.here hx rfl (pc0 := 25) (pc' := 72) rfl (hb hby d31_25) rfl (tlt hk5).2.2.1 (by decide) (by decide) (qa X0 hx hby d31_72 rfl rfl rfl (XS.iinc X0.here hx rfl (hb hby d31_73) rfl (l' := #[vI (-ci0), vI 10, vR ra1, vU, vU, vI 9, vI 0]) rfl (XS.iload X0.here hx rfl (hb hby d31_76) rfl k))))))) ?_
 obtain ⟨T1, X1, e1, st1⟩ := getS2 X0 hx hZ hown (host := "") (Or.inl (ow hw 208)) Via.refl e0 (SG0.ext OLD.2) (g := (mkF m 78 #[vI (-ci0), vI 10, vR ra1, vU, vU, vI 9, vI 0] [.int 9, .ref ra1])) rfl (hb hby d31_78)
 refine og T1 (mkF m 83 #[vI (-ci0), vI 10, vR ra1, vU, vU, vI 9, vI 0] [(.int (-(-ci0))), .ref dg, .int 9, .ref ra1]) (fun _ k => st1 _ (qi X1 hx hby d31_81 rfl rfl (XS.ineg X1.here hx rfl (hb hby d31_82) rfl k))) ?_
 obtain ⟨cl2, Ar2, qr2, Sr2, Nr2, Hr2, Gr2⟩ := id (VG0.ext OLD.2)
 have hi2 : ¬ ((-(-ci0)) < 0 ∨ cl2.slots.size ≤ ((-(-ci0))).toNatClampNeg) := inb_of Sr2 (own_dgi hk3 hk6)
 refine og T1 (mkF m 84 #[vI (-ci0), vI 10, vR ra1, vU, vU, vI 9, vI 0] [(.int ((48 : Int32) + ci0)), .int 9, .ref ra1]) (fun t k => X1.baloadBytes hx (j := (-(-ci0))) (v := (.int ((48 : Int32) + ci0))) (by rw [e1]; exact Ar2.1) (State.isArrayOf_alike hZ.alike Ar2.2.1) Ar2.2.2 hi2 (Has.at Hr2 hi2 (own_dgv hk3 hk6)) (g := (mkF m 83 #[vI (-ci0), vI 10, vR ra1, vU, vU, vI 9, vI 0] [(.int (-(-ci0))), .ref dg, .int 9, .ref ra1])) rfl rfl (hb hby d31_83) t k) ?_
 obtain ⟨T3, h3, X3, e3, W3, V3, st3⟩ := own_bst X1 hx hZ e1 C' A' (j := (9 : Int32)) rfl ⟨by decide, by decide⟩ (g := (mkF m 84 #[vI (-ci0), vI 10, vR ra1, vU, vU, vI 9, vI 0] [(.int ((48 : Int32) + ci0)), .int 9, .ref ra1])) rfl rfl (hb hby d31_84)
 have N3 := Fr.snoc X3 N0 D'
 refine og T3 (mkF m 120 #[vI (-ci0), vI 10, vR ra1, vU, vU, vI 9, vI 0] [.int 9]) (fun _ k => st3 _ (qi X3 hx hby d31_85 rfl rfl (qb X3 hx hby d31_86 rfl (XS.icmpYes X3.here hx rfl (pc0 := 88) (pc' := 104) rfl (hb hby d31_88) rfl (flt hk6).2.1 (by decide) (by decide) (XS.iload X3.here hx rfl (hb hby d31_104) rfl (XS.ifYes X3.here hx rfl (pc0 := 106) (pc' := 118) rfl (hb hby d31_106) rfl ((if0 _ _).trans (teq (by decide : (0 : Int32) = (0 : Int32))).1) (by decide) (by decide) (XS.iload X3.here hx rfl (hb hby d31_118) rfl k))))))) ?_
 have KEEP := ((Keep.refl h0 [ra1]).wr W3 (Or.inl (List.mem_of_getElem? (i := 0) rfl)))
 exact own_leaveN X3 hlk (v := some (.int 9)) (own_nr hret) (lb rfl) (lb rfl) (by rw [e3]; exact ⟨rfl, N3, KEEP, V3⟩) (fun fs hr => retI X3 hx hret (hb hby d31_120) hr)
abbrev R28_16 : Room := { frames := 1, cells := 0, slots := 0, locals := 18 }
def Q28_16 (Z : State) (ra0 ra1 : Addr) (kc2 : ClassId) (cs3 : List Int32) (ci4 G1 : Int32) (dg : Addr) (kdg : ClassId) (h0 : Heap) (n0 : Nat) (v : Option Value) (h : Heap) (L : List Loc) : Prop := (v = some (.ref ra0) ∧ Fr n0 L ∧ Keep h0 h [ra1, ra0] ∧ Arv Z h ra1 kc2 .byte (16 : Int32) (own_by (cs3 ++ ([(48 + ci4)] : List Int32))) (.int 0) ∧ Fld Z h ra0 cN4 "coder" "B" (.int 0) ∧ Fld Z h ra0 cN4 "count" "I" (.int 10) ∧ Fld Z h ra0 cN4 "value" "[B" (.ref ra1))
theorem rm28_16 l Z a0 (hw : HW Z a0) ra0 ra1 kc2 (cs3 : List Int32) (ci4 : Int32) (G1 : Int32) dg kdg h0 n0 (OLD : Old Z n0 h0) (A' : Exa Z h0 ra0 cN8) (B' : Fld Z h0 ra0 cN4 "coder" "B" (.int 0)) (C' : Fld Z h0 ra0 cN4 "count" "I" (.int 9)) (D' : Fld Z h0 ra0 cN4 "value" "[B" (.ref ra1)) (E' : cs3.length = 9) (F' : own_L cs3) (G' : Arv Z h0 ra1 kc2 .byte (16 : Int32) (own_by cs3) (.int 0)) (hk7 : ¬ (ci4 < (0 : Int32))) (hk8 : (-10 : Int32) < (-ci4)) (hk9 : (-100 : Int32) < (-ci4)) (hk10 : ¬ ((-ci4) < (-9 : Int32))) (O2 : Sta Z Z.heap cN6 "COMPACT_STRINGS" "Z" (.int G1)) (P5 : ¬ (G1 = (0 : Int32))) (SG0 : Sta Z Z.heap "java/lang/Integer" "DigitOnes" "[B" (.ref dg)) (VG0 : Arv Z Z.heap dg kdg .byte (100 : Int32) own_dig (.int 0)) (H' : n0 ≤ ra1) (ne_ra0_ra1 : ra0 ≠ ra1) (I' : n0 ≤ ra0) :
  own_CN l Z y14 jdk_68_method_32_code 4 (some (.object cN4)) [] R28_16 #[.ref ra0, .int ci4] h0 (Q28_16 Z ra0 ra1 kc2 cs3 ci4 G1 dg kdg h0 n0) := by
 refine own_entryN (plainFor_of_name pn_2) fun p e s m below meth c s₁ hx hby hml hown hnm hret hlk hZ hh X0 e0 => ?_
 have N0 := Fr.nil n0
 rw [ef_28_16 m ra0 ci4]
 refine og s₁ (mkF m 1 #[vR ra0, vI ci4, vU, vU] [.ref ra0]) (fun _ k => qa X0 hx hby d28_0 rfl rfl rfl k) ?_
 obtain ⟨T1, X1, e1, st1⟩ := qf X0 hx hZ hown (ow hw 148) e0 C' (g := (mkF m 1 #[vR ra0, vI ci4, vU, vU] [.ref ra0])) rfl rfl hby d28_1
 refine og T1 (mkF m 7 #[vR ra0, vI ci4, vI 9, vU] [.int ci4, .int 9]) (fun _ k => st1 _ (XS.istoreN X1.here hx rfl (hb hby d28_4) rfl (l' := #[vR ra0, vI ci4, vI 9, vU]) rfl (qi X1 hx hby d28_5 rfl rfl (qi X1 hx hby d28_6 rfl rfl k)))) ?_
 obtain ⟨_, T2, L2, X2, hQ2, st2⟩ := own_tc X1 hx hZ hown (ow hw 196) (ow hw 197) (rm29_17 l Z a0 hw ci4 h0 n0 OLD hk7 hk8 hk9 hk10) (ow hw 199) (ow hw 198) e1 (g := (mkF m 7 #[vR ra0, vI ci4, vI 9, vU] [.int ci4, .int 9])) rfl (zs hml) (argsL := [.int ci4]) (rest := [.int 9]) (lenOf pd_8 rfl) rfl (hb hby d28_7) (W := 1) rfl
 obtain ⟨rfl, Nq2, eq2⟩ := hQ2
 have N2 := Fr.app N0 Nq2
 refine og T2 (mkF m 14 #[vR ra0, vI ci4, vI 9, vI 10] [.int 10, .ref ra0]) (fun _ k => st2.trans (qp X2 hx hby d28_10 rfl rfl (XS.istoreN X2.here hx rfl (hb hby d28_11) rfl (l' := #[vR ra0, vI ci4, vI 9, vI 10]) rfl (qa X2 hx hby d28_12 rfl rfl rfl (qi X2 hx hby d28_13 rfl rfl k))))) ?_
 obtain ⟨_, T3, L3, X3, hQ3, st3⟩ := own_pc X2 hx hZ hown (ow hw 150) (ow hw 153) (ow hw 151) (ow hw 152) A' (rm22_18 l Z a0 hw ra0 ra1 kc2 cs3 h0 n0 OLD A' B' C' D' E' F' G') (ow hw 154) (ow hw 109) eq2 (g := (mkF m 14 #[vR ra0, vI ci4, vI 9, vI 10] [.int 10, .ref ra0])) rfl (zs hml) (argsL := [.int 10]) (rest := []) (lenOf pd_0 rfl) rfl (hb hby d28_14) (W := 0) rfl
 obtain ⟨rfl, Nq3, eq3⟩ := hQ3
 have N3 := Fr.app N2 Nq3
 refine og T3 (mkF m 18 #[vR ra0, vI ci4, vI 9, vI 10] [.ref ra0]) (fun _ k => st3.trans (qa X3 hx hby d28_17 rfl rfl rfl k)) ?_
 obtain ⟨_, T4, L4, X4, hQ4, st4⟩ := own_vc X3 hx hZ hown (ow hw 200) (ow hw 201) (ow hw 203) (ow hw 202) A' (rm30_19 l Z a0 hw ra0 ra1 kc2 cs3 G1 h0 n0 OLD A' B' C' D' E' F' G' O2 P5) (ow hw 204) (ow hw 109) eq3 (g := (mkF m 18 #[vR ra0, vI ci4, vI 9, vI 10] [.ref ra0])) rfl (zs hml) (argsL := []) (rest := []) (lenOf pd_9 rfl) rfl (hb hby d28_18) (W := 0) rfl
 obtain ⟨rfl, Nq4, eq4⟩ := hQ4
 have N4 := Fr.app N3 Nq4
 refine og T4 (mkF m 27 #[vR ra0, vI ci4, vI 9, vI 10] [.ref ra0, .int 10, .int ci4]) (fun _ k => st4.trans (XS.ifNo X4.here hx rfl (hb hby d28_21) rfl ((if0 _ _).trans (feq (by decide : ¬ ((1 : Int32) = (0 : Int32)))).1) (qi X4 hx hby d28_24 rfl rfl (qi X4 hx hby d28_25 rfl rfl (qa X4 hx hby d28_26 rfl rfl rfl k))))) ?_
 obtain ⟨T5, X5, e5, st5⟩ := qf X4 hx hZ hown (ow hw 115) eq4 D' (g := (mkF m 27 #[vR ra0, vI ci4, vI 9, vI 10] [.ref ra0, .int 10, .int ci4])) rfl rfl hby d28_27
 refine og T5 (mkF m 30 #[vR ra0, vI ci4, vI 9, vI 10] [.ref ra1, .int 10, .int ci4]) st5 ?_
 obtain ⟨_, T6, L6, X6, hQ6, st6⟩ := own_tc X5 hx hZ hown (ow hw 205) (ow hw 206) (rm31_20 l Z a0 hw ci4 ra1 kc2 cs3 dg kdg h0 n0 OLD E' F' G' hk7 hk8 hk9 hk10 SG0 VG0 H') (ow hw 207) (ow hw 198) e5 (g := (mkF m 30 #[vR ra0, vI ci4, vI 9, vI 10] [.ref ra1, .int 10, .int ci4])) rfl (zs hml) (argsL := [.int ci4, .int 10, .ref ra1]) (rest := []) (lenOf pd_10 rfl) rfl (hb hby d28_30) (W := 0) rfl
 obtain ⟨rfl, Nq6, K6, f7⟩ := hQ6
 have N6 := Fr.app N4 Nq6
 refine og T6 (mkF m 50 #[vR ra0, vI ci4, vI 9, vI 10] [.int 10, .ref ra0]) (fun _ k => st6.trans (XS.pop X6.here hx rfl (hb hby d28_33) rfl rfl (XS.goto X6.here hx rfl (pc0 := 34) (pc' := 48) rfl (hb hby d28_34) (by decide) (by decide) (qa X6 hx hby d28_48 rfl rfl rfl (qi X6 hx hby d28_49 rfl rfl k))))) ?_
 have F8 := (A'.keep K6)
 have F9 := (C'.keep K6 (ninS ne_ra0_ra1 nin0))
 obtain ⟨T10, h10, X10, e10, W10, st10⟩ := putF X6 hx hZ hown (host := "") (Or.inl (ow hw 148)) Via.refl rfl F9 F8 (Or.inl (ow hw 149)) (ow hw 100) (ty := .int) (by decide) rfl rfl (g := (mkF m 50 #[vR ra0, vI ci4, vI 9, vI 10] [.int 10, .ref ra0])) rfl rfl (hb hby d28_50)
 have Fw10 := F9.same W10
 have N10 := Fr.snoc X10 N6 I'
 refine og T10 (mkF m 54 #[vR ra0, vI ci4, vI 9, vI 10] [.ref ra0]) (fun _ k => st10 _ (qa X10 hx hby d28_53 rfl rfl rfl k)) ?_
 have F11 := (f7.other W10 (Ne.symm ne_ra0_ra1))
 have F12 := ((B'.keep K6 (ninS ne_ra0_ra1 nin0)).other W10 (Or.inr (slot_ne (Or.inl (ow hw 118)) (Or.inl (ow hw 149)) (by decide) (t := .byte) (t' := .int) (by decide) (by decide))))
 have F13 := ((D'.keep K6 (ninS ne_ra0_ra1 nin0)).other W10 (Or.inr (slot_ne (Or.inl (ow hw 116)) (Or.inl (ow hw 149)) (by decide) (t := (.array .byte)) (t' := .int) (by decide) (by decide))))
 have KEEP := (((Keep.refl h0 [ra1, ra0]).trans K6 (allS (Or.inl (List.mem_of_getElem? (i := 0) rfl)) all0)).wr W10 (Or.inl (List.mem_of_getElem? (i := 1) rfl)))
 exact own_leaveN X10 hlk (v := some (.ref ra0)) (own_nr hret) (lb rfl) (lb rfl) (by rw [e10]; exact ⟨rfl, N10, KEEP, F11, F12, Fw10, F13⟩) (own_ra X10 hx hret rfl rfl rfl (hb hby d28_54))
abbrev R27_15 : Room := { frames := 2, cells := 0, slots := 0, locals := 33 }
def Q27_15 (Z : State) (ra0 ra1 : Addr) (kc2 : ClassId) (cs3 : List Int32) (ci4 G1 : Int32) (dg : Addr) (kdg : ClassId) (h0 : Heap) (n0 : Nat) (v : Option Value) (h : Heap) (L : List Loc) : Prop := (v = some (.ref ra0) ∧ Fr n0 L ∧ Keep h0 h [ra1, ra0] ∧ Arv Z h ra1 kc2 .byte (16 : Int32) (own_by (cs3 ++ ([(48 + ci4)] : List Int32))) (.int 0) ∧ Fld Z h ra0 cN4 "coder" "B" (.int 0) ∧ Fld Z h ra0 cN4 "count" "I" (.int 10) ∧ Fld Z h ra0 cN4 "value" "[B" (.ref ra1))
theorem rm27_15 l Z a0 (hw : HW Z a0) ra0 ra1 kc2 (cs3 : List Int32) (ci4 : Int32) (G1 : Int32) dg kdg h0 n0 (OLD : Old Z n0 h0) (A' : Exa Z h0 ra0 cN8) (B' : Fld Z h0 ra0 cN4 "coder" "B" (.int 0)) (C' : Fld Z h0 ra0 cN4 "count" "I" (.int 9)) (D' : Fld Z h0 ra0 cN4 "value" "[B" (.ref ra1)) (E' : cs3.length = 9) (F' : own_L cs3) (G' : Arv Z h0 ra1 kc2 .byte (16 : Int32) (own_by cs3) (.int 0)) (hk7 : ¬ (ci4 < (0 : Int32))) (hk8 : (-10 : Int32) < (-ci4)) (hk9 : (-100 : Int32) < (-ci4)) (hk10 : ¬ ((-ci4) < (-9 : Int32))) (O2 : Sta Z Z.heap cN6 "COMPACT_STRINGS" "Z" (.int G1)) (P5 : ¬ (G1 = (0 : Int32))) (SG0 : Sta Z Z.heap "java/lang/Integer" "DigitOnes" "[B" (.ref dg)) (VG0 : Arv Z Z.heap dg kdg .byte (100 : Int32) own_dig (.int 0)) (H' : n0 ≤ ra1) (ne_ra0_ra1 : ra0 ≠ ra1) (I' : n0 ≤ ra0) :
  own_CN l Z y15 jdk_67_method_15_code 2 (some (.object cN8)) [] R27_15 #[.ref ra0, .int ci4] h0 (Q27_15 Z ra0 ra1 kc2 cs3 ci4 G1 dg kdg h0 n0) := by
 refine own_entryN (plainFor_of_name pn_3) fun p e s m below meth c s₁ hx hby hml hown hnm hret hlk hZ hh X0 e0 => ?_
 have N0 := Fr.nil n0
 rw [ef_27_15 m ra0 ci4]
 refine og s₁ (mkF m 2 #[vR ra0, vI ci4] [.int ci4, .ref ra0]) (fun _ k => qa X0 hx hby d27_0 rfl rfl rfl (qi X0 hx hby d27_1 rfl rfl k)) ?_
 obtain ⟨_, _, ⟨T2, L2, k2, n2⟩, -, X2, ⟨Lc2, hQ2, l2, y2, z2⟩, st2⟩ := superBack X0 hx hZ (y := y14) hown (ow hw 192) (own_same (z := y4) (ow hw 153) (ow hw 193) rfl (by decide)) (ow hw 193) (ow hw 132) (by decide) (backOf (W := 0) (rm28_16 l Z a0 hw ra0 ra1 kc2 cs3 ci4 G1 dg kdg h0 n0 OLD A' B' C' D' E' F' G' hk7 hk8 hk9 hk10 O2 P5 SG0 VG0 H' ne_ra0_ra1 I') hZ (ow hw 195) (ow hw 109) (lb rfl) (lb rfl)) e0 (Ins.self A') (g := (mkF m 2 #[vR ra0, vI ci4] [.int ci4, .ref ra0])) rfl (zs hml) (ow hw 195) (argsL := [.int ci4]) (rest := []) (lenOf pd_11 rfl) rfl (lb rfl) (hb hby d27_2) (fun _ _ => ⟨rfl, e0, (lb rfl), (lb rfl)⟩)
 dsimp only [Pt.U, Pt.locs, Pt.cells, Pt.slots] at X2 l2 y2 z2 st2 hQ2
 subst l2 y2 z2
 obtain ⟨rfl, Nq2, K2, f3, f4, f5, f6⟩ := hQ2
 have N2 := Fr.app N0 Nq2
 refine og T2 (mkF m 7 #[vR ra0, vI ci4] [.ref ra0]) (fun _ k => st2.trans (XS.pop X2.here hx rfl (hb hby d27_5) rfl rfl (qa X2 hx hby d27_6 rfl rfl rfl k))) ?_
 have KEEP := ((Keep.refl h0 [ra1, ra0]).trans K2 (allS (Or.inl (List.mem_of_getElem? (i := 0) rfl)) (allS (Or.inl (List.mem_of_getElem? (i := 1) rfl)) all0)))
 exact own_leaveN X2 hlk (v := some (.ref ra0)) (own_nr hret) (lb rfl) (lb rfl) (by exact ⟨rfl, N2, KEEP, f3, f4, f5, f6⟩) (own_ra X2 hx hret rfl rfl rfl (hb hby d27_7))
abbrev R14_26 : Room := { frames := 0, cells := 0, slots := 0, locals := 0 }
def Q14_26 (Z : State)  (h0 : Heap) (n0 : Nat) (v : Option Value) (h : Heap) (L : List Loc) : Prop := (v = some (.int 18) ∧ Fr n0 L ∧ h = h0)
theorem rm14_26 l Z a0 (hw : HW Z a0)  h0 n0 (OLD : Old Z n0 h0) :
  own_CN l Z y16 jdk_29_method_65_code 2 (some .int) [] R14_26 #[.int 3, .int 18] h0 (Q14_26 Z  h0 n0) := by
 refine own_entryN (Jvm.Free.JP.mathPlain rfl (by decide +kernel)) fun p e s m below meth c s₁ hx hby hml hown hnm hret hlk hZ hh X0 e0 => ?_
 have N0 := Fr.nil n0
 rw [ef_14_26 m ]
 refine og s₁ (mkF m 10 #[vI 3, vI 18] [.int 18]) (fun _ k => qi X0 hx hby d14_0 rfl rfl (qi X0 hx hby d14_1 rfl rfl (XS.icmpYes X0.here hx rfl (pc0 := 2) (pc' := 9) rfl (hb hby d14_2) rfl (tlt (by decide : (3 : Int32) < (18 : Int32))).1 (by decide) (by decide) (qi X0 hx hby d14_9 rfl rfl k)))) ?_
 exact own_leaveN X0 hlk (v := some (.int 18)) (own_nr hret) (lb rfl) (lb rfl) (by rw [e0]; exact ⟨rfl, N0, rfl⟩) (fun fs hr => retI X0 hx hret (hb hby d14_10) hr)
abbrev R33_25 : Room := { frames := 1, cells := 0, slots := 0, locals := 14 }
def Q33_25 (Z : State)  (h0 : Heap) (n0 : Nat) (v : Option Value) (h : Heap) (L : List Loc) : Prop := (v = some (.int 34) ∧ Fr n0 L ∧ h = h0)
theorem rm33_25 l Z a0 (hw : HW Z a0)  h0 n0 (OLD : Old Z n0 h0) :
  own_CN l Z y17 jdk_48_method_27_code 4 (some .int) [] R33_25 #[.int 16, .int 3, .int 18] h0 (Q33_25 Z  h0 n0) := by
 refine own_entryN (plainFor_of_name pn_6) fun p e s m below meth c s₁ hx hby hml hown hnm hret hlk hZ hh X0 e0 => ?_
 have N0 := Fr.nil n0
 rw [ef_33_25 m ]
 refine og s₁ (mkF m 3 #[vI 16, vI 3, vI 18, vU] [.int 18, .int 3, .int 16]) (fun _ k => qi X0 hx hby d33_0 rfl rfl (qi X0 hx hby d33_1 rfl rfl (qi X0 hx hby d33_2 rfl rfl k))) ?_
 obtain ⟨_, T1, L1, X1, hQ1, st1⟩ := own_tc X0 hx hZ hown (ow hw 219) (ow hw 88) (rm14_26 l Z a0 hw  h0 n0 OLD ) (ow hw 90) (ow hw 89) e0 (g := (mkF m 3 #[vI 16, vI 3, vI 18, vU] [.int 18, .int 3, .int 16])) rfl (zs hml) (argsL := [.int 3, .int 18]) (rest := [.int 16]) (lenOf pd_13 rfl) rfl (hb hby d33_3) (W := 1) rfl
 obtain ⟨rfl, Nq1, eq1⟩ := hQ1
 have N1 := Fr.app N0 Nq1
 refine og T1 (mkF m 14 #[vI 16, vI 3, vI 18, vI 34] [.int 34]) (fun _ k => st1.trans (qp X1 hx hby d33_6 rfl rfl (XS.istoreN X1.here hx rfl (hb hby d33_7) rfl (l' := #[vI 16, vI 3, vI 18, vI 34]) rfl (qc X1 hx hby d33_8 rfl (qi X1 hx hby d33_9 rfl rfl (qn X1 hx hby d33_10 rfl rfl (tlt (by decide : (0 : Int32) < (34 : Int32))).2.1 (qi X1 hx hby d33_13 rfl rfl k))))))) ?_
 refine og T1 (mkF m 16 #[vI 16, vI 3, vI 18, vI 34] [.int 2147483639, .int 34]) (fun t k => X1.ldcInt hx hown (mvT hZ (ow hw 220)) (g := (mkF m 14 #[vI 16, vI 3, vI 18, vI 34] [.int 34])) rfl (hb hby d33_14) t k) ?_
 refine og T1 (mkF m 20 #[vI 16, vI 3, vI 18, vI 34] [.int 34]) (fun _ k => qn X1 hx hby d33_16 rfl rfl (flt (by decide : ¬ ((2147483639 : Int32) < (34 : Int32)))).2.2.1 (qi X1 hx hby d33_19 rfl rfl k)) ?_
 exact own_leaveN X1 hlk (v := some (.int 34)) (own_nr hret) (lb rfl) (lb rfl) (by rw [eq1]; exact ⟨rfl, N1, rfl⟩) (fun fs hr => retI X1 hx hret (hb hby d33_20) hr)
abbrev R32_24 : Room := { frames := 2, cells := 0, slots := 0, locals := 29 }
def Q32_24 (Z : State) (ra0 ra1 : Addr) (kc2 : ClassId) (cs3 : List Int32) (h0 : Heap) (n0 : Nat) (v : Option Value) (h : Heap) (L : List Loc) : Prop := (v = some (.int 34) ∧ Fr n0 L ∧ h = h0)
theorem rm32_24 l Z a0 (hw : HW Z a0) ra0 ra1 kc2 (cs3 : List Int32) h0 n0 (OLD : Old Z n0 h0) (A' : Exa Z h0 ra0 cN8) (B' : Fld Z h0 ra0 cN4 "coder" "B" (.int 0)) (C' : Fld Z h0 ra0 cN4 "count" "I" (.int 10)) (D' : Fld Z h0 ra0 cN4 "value" "[B" (.ref ra1)) (E' : cs3.length = 10) (F' : own_L cs3) (G' : Arv Z h0 ra1 kc2 .byte (16 : Int32) (own_by cs3) (.int 0)) :
  own_CN l Z y18 jdk_68_method_10_code 6 (some .int) [] R32_24 #[.ref ra0, .int 19] h0 (Q32_24 Z ra0 ra1 kc2 cs3 h0 n0) := by
 refine own_entryN (plainFor_of_name pn_2) fun p e s m below meth c s₁ hx hby hml hown hnm hret hlk hZ hh X0 e0 => ?_
 have N0 := Fr.nil n0
 rw [ef_32_24 m ra0]
 refine og s₁ (mkF m 1 #[vR ra0, vI 19, vU, vU, vU, vU] [.ref ra0]) (fun _ k => qa X0 hx hby d32_0 rfl rfl rfl k) ?_
 obtain ⟨T1, X1, e1, st1⟩ := qf X0 hx hZ hown (ow hw 115) e0 D' (g := (mkF m 1 #[vR ra0, vI 19, vU, vU, vU, vU] [.ref ra0])) rfl rfl hby d32_1
 refine og T1 (mkF m 4 #[vR ra0, vI 19, vU, vU, vU, vU] [.ref ra1]) st1 ?_
 obtain ⟨cl2, Ar2, -, Sr2, Nr2, -, -⟩ := id G'
 refine og T1 (mkF m 5 #[vR ra0, vI 19, vU, vU, vU, vU] [.int 16]) (fun t k => X1.arraylength hx (by rw [e1]; exact Ar2.1) (State.isArrayOf_alike hZ.alike Ar2.2.1) (g := (mkF m 4 #[vR ra0, vI 19, vU, vU, vU, vU] [.ref ra1])) rfl rfl (hb hby d32_4) t (by rw [len_of Sr2 Nr2]; exact k)) ?_
 refine og T1 (mkF m 8 #[vR ra0, vI 19, vI 16, vU, vU, vU] [.ref ra0, .int 19]) (fun _ k => XS.istoreN X1.here hx rfl (hb hby d32_5) rfl (l' := #[vR ra0, vI 19, vI 16, vU, vU, vU]) rfl (qi X1 hx hby d32_6 rfl rfl (qa X1 hx hby d32_7 rfl rfl rfl k))) ?_
 obtain ⟨T3, X3, e3, st3⟩ := qf X1 hx hZ hown (ow hw 117) e1 B' (g := (mkF m 8 #[vR ra0, vI 19, vI 16, vU, vU, vU] [.ref ra0, .int 19])) rfl rfl hby d32_8
 refine og T3 (mkF m 12 #[vR ra0, vI 19, vI 16, vU, vU, vU] [.int 19]) (fun _ k => st3 _ (XS.ishl X3.here hx rfl (hb hby d32_11) rfl (by rw [show ((19 : Int32) <<< ((0 : Int32) &&& 31)) = (19 : Int32) from by decide]; exact k))) ?_
 refine og T3 (mkF m 24 #[vR ra0, vI 19, vI 16, vI 19, vI 3, vU] [.ref ra0, .int 2, .int 16, .int 3, .int 16]) (fun _ k => XS.istoreN X3.here hx rfl (hb hby d32_12) rfl (l' := #[vR ra0, vI 19, vI 16, vI 19, vU, vU]) rfl (qi X3 hx hby d32_13 rfl rfl (qi X3 hx hby d32_14 rfl rfl (XS.isub X3.here hx rfl (hb hby d32_15) rfl (XS.istore X3.here hx rfl (hb hby d32_16) rfl (l' := #[vR ra0, vI 19, vI 16, vI 19, vI 3, vU]) rfl (qi X3 hx hby d32_18 rfl rfl (XS.iload X3.here hx rfl (hb hby d32_19) rfl (qi X3 hx hby d32_21 rfl rfl (qc X3 hx hby d32_22 rfl (qa X3 hx hby d32_23 rfl rfl rfl k)))))))))) ?_
 obtain ⟨T4, X4, e4, st4⟩ := qf X3 hx hZ hown (ow hw 117) e3 B' (g := (mkF m 24 #[vR ra0, vI 19, vI 16, vI 19, vI 3, vU] [.ref ra0, .int 2, .int 16, .int 3, .int 16])) rfl rfl hby d32_24
 refine og T4 (mkF m 28 #[vR ra0, vI 19, vI 16, vI 19, vI 3, vU] [.int 2, .int 16, .int 3, .int 16]) (fun _ k => st4 _ (XS.ishl X4.here hx rfl (hb hby d32_27) rfl (by rw [show ((2 : Int32) <<< ((0 : Int32) &&& 31)) = (2 : Int32) from by decide]; exact k))) ?_
 refine og T4 (mkF m 29 #[vR ra0, vI 19, vI 16, vI 19, vI 3, vU] [.int 18, .int 3, .int 16]) (fun _ k => qp X4 hx hby d32_28 rfl rfl k) ?_
 obtain ⟨_, T5, L5, X5, hQ5, st5⟩ := own_tc X4 hx hZ hown (ow hw 215) (ow hw 216) (rm33_25 l Z a0 hw  h0 n0 OLD ) (ow hw 218) (ow hw 217) e4 (g := (mkF m 29 #[vR ra0, vI 19, vI 16, vI 19, vI 3, vU] [.int 18, .int 3, .int 16])) rfl (zs hml) (argsL := [.int 16, .int 3, .int 18]) (rest := []) (lenOf pd_14 rfl) rfl (hb hby d32_29) (W := 0) rfl
 obtain ⟨rfl, Nq5, eq5⟩ := hQ5
 have N5 := Fr.app N0 Nq5
 refine og T5 (mkF m 36 #[vR ra0, vI 19, vI 16, vI 19, vI 3, vI 34] [.int 34]) (fun _ k => st5.trans (XS.istore X5.here hx rfl (hb hby d32_32) rfl (l' := #[vR ra0, vI 19, vI 16, vI 19, vI 3, vI 34]) rfl (XS.iload X5.here hx rfl (hb hby d32_34) rfl k))) ?_
 refine og T5 (mkF m 38 #[vR ra0, vI 19, vI 16, vI 19, vI 3, vI 34] [.int 2147483647, .int 34]) (fun t k => X5.ldcInt hx hown (mvT hZ (ow hw 221)) (g := (mkF m 36 #[vR ra0, vI 19, vI 16, vI 19, vI 3, vI 34] [.int 34])) rfl (hb hby d32_36) t k) ?_
 refine og T5 (mkF m 54 #[vR ra0, vI 19, vI 16, vI 19, vI 3, vI 34] [.ref ra0, .int 34]) (fun _ k => XS.icmpYes X5.here hx rfl (pc0 := 38) (pc' := 51) rfl (hb hby d32_38) rfl (feq (by decide : ¬ ((34 : Int32) = (2147483647 : Int32)))).2 (by decide) (by decide) (XS.iload X5.here hx rfl (hb hby d32_51) rfl (qa X5 hx hby d32_53 rfl rfl rfl k))) ?_
 obtain ⟨T6, X6, e6, st6⟩ := qf X5 hx hZ hown (ow hw 117) eq5 B' (g := (mkF m 54 #[vR ra0, vI 19, vI 16, vI 19, vI 3, vI 34] [.ref ra0, .int 34])) rfl rfl hby d32_54
 refine og T6 (mkF m 58 #[vR ra0, vI 19, vI 16, vI 19, vI 3, vI 34] [.int 34]) (fun _ k => st6 _ (XS.ishr X6.here hx rfl (hb hby d32_57) rfl (by rw [show ((34 : Int32) >>> ((0 : Int32) &&& 31)) = (34 : Int32) from by decide]; exact k))) ?_
 exact own_leaveN X6 hlk (v := some (.int 34)) (own_nr hret) (lb rfl) (lb rfl) (by rw [e6]; exact ⟨rfl, N5, rfl⟩) (fun fs hr => retI X6 hx hret (hb hby d32_58) hr)
abbrev R35_28 : Room := { frames := 0, cells := 0, slots := 0, locals := 0 }
def Q35_28 (Z : State)  (h0 : Heap) (n0 : Nat) (v : Option Value) (h : Heap) (L : List Loc) : Prop := (v = some (.int 16) ∧ Fr n0 L ∧ h = h0)
theorem rm35_28 l Z a0 (hw : HW Z a0)  h0 n0 (OLD : Old Z n0 h0) :
  own_CN l Z y19 jdk_29_method_69_code 2 (some .int) [] R35_28 #[.int 16, .int 34] h0 (Q35_28 Z  h0 n0) := by
 refine own_entryN (Jvm.Free.JP.mathPlain rfl (by decide +kernel)) fun p e s m below meth c s₁ hx hby hml hown hnm hret hlk hZ hh X0 e0 => ?_
 have N0 := Fr.nil n0
 rw [ef_35_28 m ]
 refine og s₁ (mkF m 10 #[vI 16, vI 34] [.int 16]) (fun _ k => qi X0 hx hby d35_0 rfl rfl (qi X0 hx hby d35_1 rfl rfl (qn X0 hx hby d35_2 rfl rfl (flt (by decide : ¬ ((34 : Int32) < (16 : Int32)))).2.2.1 (qi X0 hx hby d35_5 rfl rfl (XS.goto X0.here hx rfl (pc0 := 6) (pc' := 10) rfl (hb hby d35_6) (by decide) (by decide) k))))) ?_
 exact own_leaveN X0 hlk (v := some (.int 16)) (own_nr hret) (lb rfl) (lb rfl) (by rw [e0]; exact ⟨rfl, N0, rfl⟩) (fun fs hr => retI X0 hx hret (hb hby d35_10) hr)
abbrev R34_27 : Room := { frames := 1, cells := 1, slots := 34, locals := 18 }
def Q34_27 (Z : State) (ra0 : Addr) (kc1 : ClassId) (cs2 : List Int32) (h0 : Heap) (n0 : Nat) (v : Option Value) (h : Heap) (L : List Loc) : Prop := (∃ (b2 : Addr) (k2 : ClassId), v = some (.ref b2) ∧ Fr n0 L ∧ Keep h0 h [] ∧ h0.size ≤ b2 ∧ Arv Z h b2 k2 .byte (34 : Int32) (own_by cs2) (.int 0))
theorem rm34_27 l Z a0 (hw : HW Z a0) ra0 kc1 (cs2 : List Int32) h0 n0 (OLD : Old Z n0 h0) (A' : cs2.length = 10) (B' : own_L cs2) (C' : Arv Z h0 ra0 kc1 .byte (16 : Int32) (own_by cs2) (.int 0)) :
  own_CN l Z y20 jdk_65_method_121_code 3 (some (.array .byte)) [] R34_27 #[.ref ra0, .int 34] h0 (Q34_27 Z ra0 kc1 cs2 h0 n0) := by
 refine own_entryN (plainFor_of_name pn_7) fun p e s m below meth c s₁ hx hby hml hown hnm hret hlk hZ hh X0 e0 => ?_
 have N0 := Fr.nil n0
 rw [ef_34_27 m ra0]
 refine og s₁ (mkF m 2 #[vR ra0, vI 34, vU] [.ref ra0, .int 34]) (fun _ k => qi X0 hx hby d34_0 rfl rfl (qa X0 hx hby d34_1 rfl rfl rfl k)) ?_
 obtain ⟨cl1, Ar1, -, Sr1, Nr1, -, -⟩ := id C'
 refine og s₁ (mkF m 3 #[vR ra0, vI 34, vU] [.int 16, .int 34]) (fun t k => X0.arraylength hx (by rw [e0]; exact Ar1.1) (State.isArrayOf_alike hZ.alike Ar1.2.1) (g := (mkF m 2 #[vR ra0, vI 34, vU] [.ref ra0, .int 34])) rfl rfl (hb hby d34_2) t (by rw [len_of Sr1 Nr1]; exact k)) ?_
 refine og s₁ (mkF m 15 #[vR ra0, vI 34, vU] [.int 34]) (fun _ k => XS.icmpYes X0.here hx rfl (pc0 := 3) (pc' := 14) rfl (hb hby d34_3) rfl (feq (by decide : ¬ ((34 : Int32) = (16 : Int32)))).2 (by decide) (by decide) (qi X0 hx hby d34_14 rfl rfl k)) ?_
 obtain ⟨T2, h2, k2, X2, e2, E2, A2, st2⟩ := newP X0 hx hZ (ow hw 114) e0 (g := (mkF m 15 #[vR ra0, vI 34, vU] [.int 34])) rfl (hb hby d34_15) rfl (by decide) (cap := 34) (by decide) (lb rfl) (lb rfl) (lb rfl)
 obtain ⟨b2, gb2⟩ : ∃ z, z = h0.size := ⟨_, rfl⟩
 rw [← gb2] at A2 st2
 have g3 : n0 ≤ b2 := Nat.le_trans (own_osz OLD) (Nat.le_of_eq gb2.symm)
 have z4 : h0.size ≤ b2 := Nat.le_trans (Nat.le_refl _) (Nat.le_of_eq gb2.symm)
 have V2 : Arv Z h2 b2 k2 .byte (34 : Int32) (own_by ([] : List Int32)) (.int 0) := Arv.new A2 (by decide)
 refine og T2 (mkF m 23 #[vR ra0, vI 34, vR b2] [.ref ra0, .int 0, .ref b2, .int 0, .ref ra0]) (fun _ k => st2 _ (XS.astoreN X2.here hx rfl (hb hby d34_17) rfl rfl (l' := #[vR ra0, vI 34, vR b2]) rfl (qa X2 hx hby d34_18 rfl rfl rfl (qc X2 hx hby d34_19 rfl (qa X2 hx hby d34_20 rfl rfl rfl (qc X2 hx hby d34_21 rfl (qa X2 hx hby d34_22 rfl rfl rfl k))))))) ?_
 have F5 := (C'.ext E2)
 obtain ⟨cl6, Ar6, -, Sr6, Nr6, -, -⟩ := id F5
 refine og T2 (mkF m 24 #[vR ra0, vI 34, vR b2] [.int 16, .int 0, .ref b2, .int 0, .ref ra0]) (fun t k => X2.arraylength hx (by rw [e2]; exact Ar6.1) (State.isArrayOf_alike hZ.alike Ar6.2.1) (g := (mkF m 23 #[vR ra0, vI 34, vR b2] [.ref ra0, .int 0, .ref b2, .int 0, .ref ra0])) rfl rfl (hb hby d34_23) t (by rw [len_of Sr6 Nr6]; exact k)) ?_
 refine og T2 (mkF m 25 #[vR ra0, vI 34, vR b2] [.int 34, .int 16, .int 0, .ref b2, .int 0, .ref ra0]) (fun _ k => qi X2 hx hby d34_24 rfl rfl k) ?_
 have F7 := (OLD.ext E2)
 obtain ⟨_, T8, L8, X8, hQ8, st8⟩ := own_tc X2 hx hZ hown (ow hw 226) (ow hw 227) (rm35_28 l Z a0 hw  h2 n0 F7 ) (ow hw 228) (ow hw 89) e2 (g := (mkF m 25 #[vR ra0, vI 34, vR b2] [.int 34, .int 16, .int 0, .ref b2, .int 0, .ref ra0])) rfl (zs hml) (argsL := [.int 16, .int 34]) (rest := [.int 0, .ref b2, .int 0, .ref ra0]) (lenOf pd_13 rfl) rfl (hb hby d34_25) (W := 4) rfl
 obtain ⟨rfl, Nq8, eq8⟩ := hQ8
 have N8 := Fr.app N0 Nq8
 refine ot T8 (mkF m 28 #[vR ra0, vI 34, vR b2] [.int 16, .int 0, .ref b2, .int 0, .ref ra0]) st8 ?_
 obtain ⟨T9, h9, L9, X9, e9, N9, K9, Vq9, st9⟩ := own_cpB X8 hx hZ hown (ow hw 229) (ow hw 174) (ow hw 172) (ow hw 173) eq8 F5 V2 (sp := (0 : Int32)) (dp := (0 : Int32)) (nn := (16 : Int32)) rfl (by decide) (by decide) (by decide) (by decide) (show _ = _ from rfl) ((Eq.symm A') ▸ lb rfl) N8 g3 (g := (mkF m 28 #[vR ra0, vI 34, vR b2] [.int 16, .int 0, .ref b2, .int 0, .ref ra0])) rfl (zs hml) rfl (hb hby d34_28) (lb rfl) (W := 0) (lb rfl) (lb rfl)
 have V9 : Arv Z h9 b2 k2 .byte (34 : Int32) (own_by cs2) (.int 0) := (by simpa using Vq9)
 refine og T9 (mkF m 32 #[vR ra0, vI 34, vR b2] [.ref b2]) (fun _ k => st9 _ (qa X9 hx hby d34_31 rfl rfl rfl k)) ?_
 have KEEP := (((Keep.refl h0 []).ext E2).trans K9 (allS (Or.inr z4) all0))
 exact own_leaveN X9 hlk (v := some (.ref b2)) (own_nr hret) (lb rfl) (lb rfl) (by rw [e9]; exact ⟨b2, k2, rfl, N9, KEEP, z4, V9⟩) (own_ra X9 hx hret rfl rfl rfl (hb hby d34_32))
abbrev R22_23 : Room := { frames := 3, cells := 1, slots := 34, locals := 48 }
def Q22_23 (Z : State) (ra0 ra1 : Addr) (kc2 : ClassId) (cs3 : List Int32) (h0 : Heap) (n0 : Nat) (v : Option Value) (h : Heap) (L : List Loc) : Prop := (∃ (o8 : Addr) (kc9 : ClassId), v = none ∧ Fr n0 L ∧ Keep h0 h [ra0] ∧ h0.size ≤ o8 ∧ Fld Z h ra0 cN4 "coder" "B" (.int 0) ∧ Fld Z h ra0 cN4 "count" "I" (.int 10) ∧ Fld Z h ra0 cN4 "value" "[B" (.ref o8) ∧ Arv Z h o8 kc9 .byte (34 : Int32) (own_by cs3) (.int 0))
theorem rm22_23 l Z a0 (hw : HW Z a0) ra0 ra1 kc2 (cs3 : List Int32) h0 n0 (OLD : Old Z n0 h0) (A' : Exa Z h0 ra0 cN8) (B' : Fld Z h0 ra0 cN4 "coder" "B" (.int 0)) (C' : Fld Z h0 ra0 cN4 "count" "I" (.int 10)) (D' : Fld Z h0 ra0 cN4 "value" "[B" (.ref ra1)) (E' : cs3.length = 10) (F' : own_L cs3) (G' : Arv Z h0 ra1 kc2 .byte (16 : Int32) (own_by cs3) (.int 0)) (H' : n0 ≤ ra0) :
  own_CN l Z y4 jdk_68_method_9_code 3 none [] R22_23 #[.ref ra0, .int 19] h0 (Q22_23 Z ra0 ra1 kc2 cs3 h0 n0) := by
 refine own_entryN (plainFor_of_name pn_2) fun p e s m below meth c s₁ hx hby hml hown hnm hret hlk hZ hh X0 e0 => ?_
 have N0 := Fr.nil n0
 rw [ef_22_23 m ra0]
 refine og s₁ (mkF m 1 #[vR ra0, vI 19, vU] [.ref ra0]) (fun _ k => qa X0 hx hby d22_0 rfl rfl rfl k) ?_
 obtain ⟨T1, X1, e1, st1⟩ := qf X0 hx hZ hown (ow hw 115) e0 D' (g := (mkF m 1 #[vR ra0, vI 19, vU] [.ref ra0])) rfl rfl hby d22_1
 refine og T1 (mkF m 4 #[vR ra0, vI 19, vU] [.ref ra1]) st1 ?_
 obtain ⟨cl2, Ar2, -, Sr2, Nr2, -, -⟩ := id G'
 refine og T1 (mkF m 5 #[vR ra0, vI 19, vU] [.int 16]) (fun t k => X1.arraylength hx (by rw [e1]; exact Ar2.1) (State.isArrayOf_alike hZ.alike Ar2.2.1) (g := (mkF m 4 #[vR ra0, vI 19, vU] [.ref ra1])) rfl rfl (hb hby d22_4) t (by rw [len_of Sr2 Nr2]; exact k)) ?_
 refine og T1 (mkF m 6 #[vR ra0, vI 19, vU] [.ref ra0, .int 16]) (fun _ k => qa X1 hx hby d22_5 rfl rfl rfl k) ?_
 obtain ⟨T3, X3, e3, st3⟩ := qf X1 hx hZ hown (ow hw 117) e1 B' (g := (mkF m 6 #[vR ra0, vI 19, vU] [.ref ra0, .int 16])) rfl rfl hby d22_6
 refine og T3 (mkF m 10 #[vR ra0, vI 19, vU] [.int 16]) (fun _ k => st3 _ (XS.ishr X3.here hx rfl (hb hby d22_9) rfl (by rw [show ((16 : Int32) >>> ((0 : Int32) &&& 31)) = (16 : Int32) from by decide]; exact k))) ?_
 refine og T3 (mkF m 19 #[vR ra0, vI 19, vI 16] [.ref ra0, .ref ra0]) (fun _ k => XS.istoreN X3.here hx rfl (hb hby d22_10) rfl (l' := #[vR ra0, vI 19, vI 16]) rfl (qi X3 hx hby d22_11 rfl rfl (qi X3 hx hby d22_12 rfl rfl (XS.isub X3.here hx rfl (hb hby d22_13) rfl (XS.ifNo X3.here hx rfl (hb hby d22_14) rfl ((if0 _ _).trans (tlt (by decide : (0 : Int32) < (3 : Int32))).2.2.2) (qa X3 hx hby d22_17 rfl rfl rfl (qa X3 hx hby d22_18 rfl rfl rfl k))))))) ?_
 obtain ⟨T4, X4, e4, st4⟩ := qf X3 hx hZ hown (ow hw 115) e3 D' (g := (mkF m 19 #[vR ra0, vI 19, vI 16] [.ref ra0, .ref ra0])) rfl rfl hby d22_19
 refine og T4 (mkF m 24 #[vR ra0, vI 19, vI 16] [.int 19, .ref ra0, .ref ra1, .ref ra0]) (fun _ k => st4 _ (qa X4 hx hby d22_22 rfl rfl rfl (qi X4 hx hby d22_23 rfl rfl k))) ?_
 obtain ⟨_, T5, L5, X5, hQ5, st5⟩ := own_pc X4 hx hZ hown (ow hw 210) (ow hw 213) (ow hw 211) (ow hw 212) A' (rm32_24 l Z a0 hw ra0 ra1 kc2 cs3 h0 n0 OLD A' B' C' D' E' F' G') (ow hw 214) (ow hw 109) e4 (g := (mkF m 24 #[vR ra0, vI 19, vI 16] [.int 19, .ref ra0, .ref ra1, .ref ra0])) rfl (zs hml) (argsL := [.int 19]) (rest := [.ref ra1, .ref ra0]) (lenOf pd_8 rfl) rfl (hb hby d22_24) (W := 2) rfl
 obtain ⟨rfl, Nq5, eq5⟩ := hQ5
 have N5 := Fr.app N0 Nq5
 refine og T5 (mkF m 28 #[vR ra0, vI 19, vI 16] [.ref ra0, .int 34, .ref ra1, .ref ra0]) (fun _ k => st5.trans (qa X5 hx hby d22_27 rfl rfl rfl k)) ?_
 obtain ⟨T6, X6, e6, st6⟩ := qf X5 hx hZ hown (ow hw 117) eq5 B' (g := (mkF m 28 #[vR ra0, vI 19, vI 16] [.ref ra0, .int 34, .ref ra1, .ref ra0])) rfl rfl hby d22_28
 refine og T6 (mkF m 32 #[vR ra0, vI 19, vI 16] [.int 34, .ref ra1, .ref ra0]) (fun _ k => st6 _ (XS.ishl X6.here hx rfl (hb hby d22_31) rfl (by rw [show ((34 : Int32) <<< ((0 : Int32) &&& 31)) = (34 : Int32) from by decide]; exact k))) ?_
 obtain ⟨_, T7, L7, X7, hQ7, st7⟩ := own_tc X6 hx hZ hown (ow hw 222) (ow hw 223) (rm34_27 l Z a0 hw ra1 kc2 cs3 h0 n0 OLD E' F' G') (ow hw 225) (ow hw 224) e6 (g := (mkF m 32 #[vR ra0, vI 19, vI 16] [.int 34, .ref ra1, .ref ra0])) rfl (zs hml) (argsL := [.ref ra1, .int 34]) (rest := [.ref ra0]) (lenOf pd_15 rfl) rfl (hb hby d22_32) (W := 1) rfl
 obtain ⟨o8, kc9, rfl, Nq7, K7, f10, f11⟩ := hQ7
 have N7 := Fr.app N5 Nq7
 have g12 : n0 ≤ o8 := Nat.le_trans (own_osz OLD) f10
 have z13 : h0.size ≤ o8 := Nat.le_trans (Nat.le_refl _) f10
 refine ot T7 (mkF m 35 #[vR ra0, vI 19, vI 16] [.ref o8, .ref ra0]) st7 ?_
 have F14 := (A'.keep K7)
 have F15 := (D'.keep K7 nin0)
 obtain ⟨T16, h16, X16, e16, W16, st16⟩ := putF X7 hx hZ hown (host := "") (Or.inl (ow hw 115)) Via.refl rfl F15 F14 (Or.inl (ow hw 116)) (ow hw 100) (ty := (.array .byte)) (by decide) rfl rfl (g := (mkF m 35 #[vR ra0, vI 19, vI 16] [.ref o8, .ref ra0])) rfl rfl (hb hby d22_35)
 have Fw16 := F15.same W16
 have N16 := Fr.snoc X16 N7 H'
 refine og T16 (mkF m 38 #[vR ra0, vI 19, vI 16] []) st16 ?_
 have F17 := ((B'.keep K7 nin0).other W16 (Or.inr (slot_ne (Or.inl (ow hw 118)) (Or.inl (ow hw 116)) (by decide) (t := .byte) (t' := (.array .byte)) (by decide) (by decide))))
 have F18 := ((C'.keep K7 nin0).other W16 (Or.inr (slot_ne (Or.inl (ow hw 149)) (Or.inl (ow hw 116)) (by decide) (t := .int) (t' := (.array .byte)) (by decide) (by decide))))
 have F19 := (f11.other W16 (Ne.symm (own_ne_lo A'.lt f10)))
 have KEEP := (((Keep.refl h0 [ra0]).trans K7 all0).wr W16 (Or.inl (List.mem_of_getElem? (i := 0) rfl)))
 exact own_leaveN X16 hlk (v := none) (fun _ => rfl) (lb rfl) (lb rfl) (by rw [e16]; exact ⟨o8, kc9, rfl, N16, KEEP, z13, F17, F18, Fw16, F19⟩) (fun fs hr => X16.returnOut hx hret (hb hby d22_38) hr)
abbrev R24_30 : Room := { frames := 1, cells := 0, slots := 0, locals := 13 }
def Q24_30 (Z : State) (ra0 ra1 : Addr) (kc2 : ClassId) (cs3 : List Int32) (ra4 ra5 : Addr) (kc6 : ClassId) (cs7 : List Int32) (G1 : Int32) (h0 : Heap) (n0 : Nat) (v : Option Value) (h : Heap) (L : List Loc) : Prop := (v = none ∧ Fr n0 L ∧ h = h0)
theorem rm24_30 l Z a0 (hw : HW Z a0) ra0 ra1 kc2 (cs3 : List Int32) ra4 ra5 kc6 (cs7 : List Int32) (G1 : Int32) h0 n0 (OLD : Old Z n0 h0) (A' : Exa Z h0 ra0 cN8) (B' : Fld Z h0 ra0 cN4 "coder" "B" (.int 0)) (C' : Fld Z h0 ra0 cN4 "count" "I" (.int 10)) (D' : Fld Z h0 ra0 cN4 "value" "[B" (.ref ra1)) (E' : cs3.length = 10) (F' : own_L cs3) (G' : Arv Z h0 ra1 kc2 .byte (34 : Int32) (own_by cs3) (.int 0)) (H' : Exa Z h0 ra4 cN6) (I' : Fld Z h0 ra4 cN6 "coder" "B" (.int 0)) (J' : Fld Z h0 ra4 cN6 "value" "[B" (.ref ra5)) (K' : cs7.length = 9) (L' : own_L cs7) (M' : Arv Z h0 ra5 kc6 .byte (9 : Int32) (own_by cs7) (.int 0)) (O2 : Sta Z Z.heap cN6 "COMPACT_STRINGS" "Z" (.int G1)) (P5 : ¬ (G1 = (0 : Int32))) :
  own_CN l Z y6 jdk_68_method_71_code 2 none [] R24_30 #[.ref ra0, .ref ra4] h0 (Q24_30 Z ra0 ra1 kc2 cs3 ra4 ra5 kc6 cs7 G1 h0 n0) := by
 refine own_entryN (plainFor_of_name pn_2) fun p e s m below meth c s₁ hx hby hml hown hnm hret hlk hZ hh X0 e0 => ?_
 have N0 := Fr.nil n0
 rw [ef_24_12 m ra0 ra4]
 obtain ⟨T1, X1, e1, st1⟩ := getS2 X0 hx hZ hown (host := "") (Or.inl (ow hw 112)) Via.refl e0 (O2.ext OLD.2) (g := (mkF m 0 #[vR ra0, vR ra4] [])) rfl (hb hby d24_0)
 refine og T1 (mkF m 7 #[vR ra0, vR ra4] [.ref ra0]) (fun _ k => st1 _ (XS.ifNo X1.here hx rfl (hb hby d24_3) rfl ((if0 _ _).trans (feq P5).1) (qa X1 hx hby d24_6 rfl rfl rfl k))) ?_
 obtain ⟨T2, X2, e2, st2⟩ := qf X1 hx hZ hown (ow hw 117) e1 B' (g := (mkF m 7 #[vR ra0, vR ra4] [.ref ra0])) rfl rfl hby d24_7
 refine og T2 (mkF m 11 #[vR ra0, vR ra4] [.ref ra4, .int 0]) (fun _ k => st2 _ (qa X2 hx hby d24_10 rfl rfl rfl k)) ?_
 obtain ⟨_, T3, L3, X3, hQ3, st3⟩ := own_vc X2 hx hZ hown (ow hw 165) (ow hw 142) (ow hw 144) (ow hw 143) H' (rm21_13 l Z a0 hw ra4 ra5 kc6 cs7 G1 h0 n0 OLD H' I' J' K' L' M' O2 P5) (ow hw 145) (ow hw 113) e2 (g := (mkF m 11 #[vR ra0, vR ra4] [.ref ra4, .int 0])) rfl (zs hml) (argsL := []) (rest := [.int 0]) (lenOf pd_2 rfl) rfl (hb hby d24_11) (W := 1) rfl
 obtain ⟨rfl, Nq3, eq3⟩ := hQ3
 have N3 := Fr.app N0 Nq3
 refine og T3 (mkF m 21 #[vR ra0, vR ra4] []) (fun _ k => st3.trans (XS.icmpYes X3.here hx rfl (pc0 := 14) (pc' := 21) rfl (hb hby d24_14) rfl (teq (by decide : (0 : Int32) = (0 : Int32))).1 (by decide) (by decide) k)) ?_
 exact own_leaveN X3 hlk (v := none) (fun _ => rfl) (lb rfl) (lb rfl) (by rw [eq3]; exact ⟨rfl, N3, rfl⟩) (fun fs hr => X3.returnOut hx hret (hb hby d24_21) hr)
abbrev R25_31 : Room := { frames := 1, cells := 0, slots := 0, locals := 18 }
def Q25_31 (Z : State) (ra0 ra1 : Addr) (kc2 : ClassId) (cs3 : List Int32) (ra4 : Addr) (kc5 : ClassId) (cs6 : List Int32) (G1 : Int32) (h0 : Heap) (n0 : Nat) (v : Option Value) (h : Heap) (L : List Loc) : Prop := (v = none ∧ Fr n0 L ∧ Keep h0 h [ra4] ∧ Arv Z h ra4 kc5 .byte (34 : Int32) (own_by (cs6 ++ cs3)) (.int 0))
theorem rm25_31 l Z a0 (hw : HW Z a0) ra0 ra1 kc2 (cs3 : List Int32) ra4 kc5 (cs6 : List Int32) (G1 : Int32) h0 n0 (OLD : Old Z n0 h0) (A' : Exa Z h0 ra0 cN6) (B' : Fld Z h0 ra0 cN6 "coder" "B" (.int 0)) (C' : Fld Z h0 ra0 cN6 "value" "[B" (.ref ra1)) (D' : cs3.length = 9) (E' : own_L cs3) (F' : Arv Z h0 ra1 kc2 .byte (9 : Int32) (own_by cs3) (.int 0)) (G' : cs6.length = 10) (H' : own_L cs6) (I' : Arv Z h0 ra4 kc5 .byte (34 : Int32) (own_by cs6) (.int 0)) (O2 : Sta Z Z.heap cN6 "COMPACT_STRINGS" "Z" (.int G1)) (P5 : ¬ (G1 = (0 : Int32))) (J' : n0 ≤ ra4) :
  own_CN l Z y7 jdk_42_method_147_code 4 none [] R25_31 #[.ref ra0, .ref ra4, .int 10, .int 0] h0 (Q25_31 Z ra0 ra1 kc2 cs3 ra4 kc5 cs6 G1 h0 n0) := by
 refine own_entryN (plainFor_of_name pn_4) fun p e s m below meth c s₁ hx hby hml hown hnm hret hlk hZ hh X0 e0 => ?_
 have N0 := Fr.nil n0
 rw [ef_25_31 m ra0 ra4]
 refine og s₁ (mkF m 1 #[vR ra0, vR ra4, vI 10, vI 0] [.ref ra0]) (fun _ k => qa X0 hx hby d25_0 rfl rfl rfl k) ?_
 obtain ⟨_, T1, L1, X1, hQ1, st1⟩ := own_vc X0 hx hZ hown (ow hw 141) (ow hw 142) (ow hw 144) (ow hw 143) A' (rm21_13 l Z a0 hw ra0 ra1 kc2 cs3 G1 h0 n0 OLD A' B' C' D' E' F' O2 P5) (ow hw 145) (ow hw 113) e0 (g := (mkF m 1 #[vR ra0, vR ra4, vI 10, vI 0] [.ref ra0])) rfl (zs hml) (argsL := []) (rest := []) (lenOf pd_2 rfl) rfl (hb hby d25_1) (W := 0) rfl
 obtain ⟨rfl, Nq1, eq1⟩ := hQ1
 have N1 := Fr.app N0 Nq1
 refine og T1 (mkF m 9 #[vR ra0, vR ra4, vI 10, vI 0] [.ref ra0]) (fun _ k => st1.trans (qi X1 hx hby d25_4 rfl rfl (qn X1 hx hby d25_5 rfl rfl (tq 0) (qa X1 hx hby d25_8 rfl rfl rfl k)))) ?_
 obtain ⟨T2, X2, e2, st2⟩ := qf X1 hx hZ hown (ow hw 140) eq1 C' (g := (mkF m 9 #[vR ra0, vR ra4, vI 10, vI 0] [.ref ra0])) rfl rfl hby d25_9
 refine og T2 (mkF m 16 #[vR ra0, vR ra4, vI 10, vI 0] [.int 0, .int 10, .ref ra4, .int 0, .ref ra1]) (fun _ k => st2 _ (qc X2 hx hby d25_12 rfl (qa X2 hx hby d25_13 rfl rfl rfl (qi X2 hx hby d25_14 rfl rfl (qi X2 hx hby d25_15 rfl rfl k))))) ?_
 refine og T2 (mkF m 17 #[vR ra0, vR ra4, vI 10, vI 0] [.int 10, .ref ra4, .int 0, .ref ra1]) (fun _ k => XS.ishl X2.here hx rfl (hb hby d25_16) rfl (by rw [show ((10 : Int32) <<< ((0 : Int32) &&& 31)) = (10 : Int32) from by decide]; exact k)) ?_
 refine og T2 (mkF m 18 #[vR ra0, vR ra4, vI 10, vI 0] [.ref ra0, .int 10, .ref ra4, .int 0, .ref ra1]) (fun _ k => qa X2 hx hby d25_17 rfl rfl rfl k) ?_
 obtain ⟨T3, X3, e3, st3⟩ := qf X2 hx hZ hown (ow hw 140) e2 C' (g := (mkF m 18 #[vR ra0, vR ra4, vI 10, vI 0] [.ref ra0, .int 10, .ref ra4, .int 0, .ref ra1])) rfl rfl hby d25_18
 refine og T3 (mkF m 21 #[vR ra0, vR ra4, vI 10, vI 0] [.ref ra1, .int 10, .ref ra4, .int 0, .ref ra1]) st3 ?_
 obtain ⟨cl4, Ar4, -, Sr4, Nr4, -, -⟩ := id F'
 refine og T3 (mkF m 22 #[vR ra0, vR ra4, vI 10, vI 0] [.int 9, .int 10, .ref ra4, .int 0, .ref ra1]) (fun t k => X3.arraylength hx (by rw [e3]; exact Ar4.1) (State.isArrayOf_alike hZ.alike Ar4.2.1) (g := (mkF m 21 #[vR ra0, vR ra4, vI 10, vI 0] [.ref ra1, .int 10, .ref ra4, .int 0, .ref ra1])) rfl rfl (hb hby d25_21) t (by rw [len_of Sr4 Nr4]; exact k)) ?_
 obtain ⟨T5, h5, L5, X5, e5, N5, K5, Vq5, st5⟩ := own_cpB X3 hx hZ hown (ow hw 171) (ow hw 174) (ow hw 172) (ow hw 173) e3 F' I' (sp := (0 : Int32)) (dp := (10 : Int32)) (nn := (9 : Int32)) rfl (by decide) (by decide) (by decide) (by decide) (show _ = _ from G') ((Eq.symm D') ▸ lb rfl) N1 J' (g := (mkF m 22 #[vR ra0, vR ra4, vI 10, vI 0] [.int 9, .int 10, .ref ra4, .int 0, .ref ra1])) rfl (zs hml) rfl (hb hby d25_22) (lb rfl) (W := 0) (lb rfl) (lb rfl)
 have V5 : Arv Z h5 ra4 kc5 .byte (34 : Int32) (own_by (cs6 ++ cs3)) (.int 0) := Vq5
 refine og T5 (mkF m 43 #[vR ra0, vR ra4, vI 10, vI 0] []) (fun _ k => st5 _ (XS.goto X5.here hx rfl (pc0 := 25) (pc' := 43) rfl (hb hby d25_25) (by decide) (by decide) k)) ?_
 have KEEP := ((Keep.refl h0 [ra4]).trans K5 (allS (Or.inl (List.mem_of_getElem? (i := 0) rfl)) all0))
 exact own_leaveN X5 hlk (v := none) (fun _ => rfl) (lb rfl) (lb rfl) (by rw [e5]; exact ⟨rfl, N5, KEEP, V5⟩) (fun fs hr => X5.returnOut hx hret (hb hby d25_43) hr)
abbrev R23_29 : Room := { frames := 2, cells := 0, slots := 0, locals := 33 }
def Q23_29 (Z : State) (ra0 ra1 : Addr) (kc2 : ClassId) (cs3 : List Int32) (ra4 ra5 : Addr) (kc6 : ClassId) (cs7 : List Int32) (G1 : Int32) (h0 : Heap) (n0 : Nat) (v : Option Value) (h : Heap) (L : List Loc) : Prop := (v = none ∧ Fr n0 L ∧ Keep h0 h [ra1] ∧ Arv Z h ra1 kc2 .byte (34 : Int32) (own_by (cs3 ++ cs7)) (.int 0))
theorem rm23_29 l Z a0 (hw : HW Z a0) ra0 ra1 kc2 (cs3 : List Int32) ra4 ra5 kc6 (cs7 : List Int32) (G1 : Int32) h0 n0 (OLD : Old Z n0 h0) (A' : Exa Z h0 ra0 cN8) (B' : Fld Z h0 ra0 cN4 "coder" "B" (.int 0)) (C' : Fld Z h0 ra0 cN4 "count" "I" (.int 10)) (D' : Fld Z h0 ra0 cN4 "value" "[B" (.ref ra1)) (E' : cs3.length = 10) (F' : own_L cs3) (G' : Arv Z h0 ra1 kc2 .byte (34 : Int32) (own_by cs3) (.int 0)) (H' : Exa Z h0 ra4 cN6) (I' : Fld Z h0 ra4 cN6 "coder" "B" (.int 0)) (J' : Fld Z h0 ra4 cN6 "value" "[B" (.ref ra5)) (K' : cs7.length = 9) (L' : own_L cs7) (M' : Arv Z h0 ra5 kc6 .byte (9 : Int32) (own_by cs7) (.int 0)) (O2 : Sta Z Z.heap cN6 "COMPACT_STRINGS" "Z" (.int G1)) (P5 : ¬ (G1 = (0 : Int32))) (N' : n0 ≤ ra1) :
  own_CN l Z y8 jdk_68_method_73_code 3 none [] R23_29 #[.ref ra0, .int 10, .ref ra4] h0 (Q23_29 Z ra0 ra1 kc2 cs3 ra4 ra5 kc6 cs7 G1 h0 n0) := by
 refine own_entryN (plainFor_of_name pn_2) fun p e s m below meth c s₁ hx hby hml hown hnm hret hlk hZ hh X0 e0 => ?_
 have N0 := Fr.nil n0
 rw [ef_23_29 m ra0 ra4]
 refine og s₁ (mkF m 2 #[vR ra0, vI 10, vR ra4] [.ref ra4, .ref ra0]) (fun _ k => qa X0 hx hby d23_0 rfl rfl rfl (qa X0 hx hby d23_1 rfl rfl rfl k)) ?_
 obtain ⟨_, T1, L1, X1, hQ1, st1⟩ := own_pc X0 hx hZ hown (ow hw 160) (ow hw 163) (ow hw 161) (ow hw 162) A' (rm24_30 l Z a0 hw ra0 ra1 kc2 cs3 ra4 ra5 kc6 cs7 G1 h0 n0 OLD A' B' C' D' E' F' G' H' I' J' K' L' M' O2 P5) (ow hw 164) (ow hw 109) e0 (g := (mkF m 2 #[vR ra0, vI 10, vR ra4] [.ref ra4, .ref ra0])) rfl (zs hml) (argsL := [.ref ra4]) (rest := []) (lenOf pd_3 rfl) rfl (hb hby d23_2) (W := 0) rfl
 obtain ⟨rfl, Nq1, eq1⟩ := hQ1
 have N1 := Fr.app N0 Nq1
 refine og T1 (mkF m 7 #[vR ra0, vI 10, vR ra4] [.ref ra0, .ref ra4]) (fun _ k => st1.trans (qa X1 hx hby d23_5 rfl rfl rfl (qa X1 hx hby d23_6 rfl rfl rfl k))) ?_
 obtain ⟨T2, X2, e2, st2⟩ := qf X1 hx hZ hown (ow hw 115) eq1 D' (g := (mkF m 7 #[vR ra0, vI 10, vR ra4] [.ref ra0, .ref ra4])) rfl rfl hby d23_7
 refine og T2 (mkF m 12 #[vR ra0, vI 10, vR ra4] [.ref ra0, .int 10, .ref ra1, .ref ra4]) (fun _ k => st2 _ (qi X2 hx hby d23_10 rfl rfl (qa X2 hx hby d23_11 rfl rfl rfl k))) ?_
 obtain ⟨T3, X3, e3, st3⟩ := qf X2 hx hZ hown (ow hw 117) e2 B' (g := (mkF m 12 #[vR ra0, vI 10, vR ra4] [.ref ra0, .int 10, .ref ra1, .ref ra4])) rfl rfl hby d23_12
 refine og T3 (mkF m 15 #[vR ra0, vI 10, vR ra4] [.int 0, .int 10, .ref ra1, .ref ra4]) st3 ?_
 obtain ⟨_, T4, L4, X4, hQ4, st4⟩ := own_vc X3 hx hZ hown (ow hw 166) (ow hw 167) (ow hw 169) (ow hw 168) H' (rm25_31 l Z a0 hw ra4 ra5 kc6 cs7 ra1 kc2 cs3 G1 h0 n0 OLD H' I' J' K' L' M' E' F' G' O2 P5 N') (ow hw 170) (ow hw 113) e3 (g := (mkF m 15 #[vR ra0, vI 10, vR ra4] [.int 0, .int 10, .ref ra1, .ref ra4])) rfl (zs hml) (argsL := [.ref ra1, .int 10, .int 0]) (rest := []) (lenOf pd_4 rfl) rfl (hb hby d23_15) (W := 0) rfl
 obtain ⟨rfl, Nq4, K4, f5⟩ := hQ4
 have N4 := Fr.app N1 Nq4
 refine ot T4 (mkF m 18 #[vR ra0, vI 10, vR ra4] []) st4 ?_
 have KEEP := ((Keep.refl h0 [ra1]).trans K4 (allS (Or.inl (List.mem_of_getElem? (i := 0) rfl)) all0))
 exact own_leaveN X4 hlk (v := none) (fun _ => rfl) (lb rfl) (lb rfl) (by exact ⟨rfl, N4, KEEP, f5⟩) (fun fs hr => X4.returnOut hx hret (hb hby d23_18) hr)
abbrev R19_22 : Room := { frames := 4, cells := 1, slots := 34, locals := 62 }
def Q19_22 (Z : State) (ra0 ra1 : Addr) (kc2 : ClassId) (cs3 : List Int32) (ra4 ra5 : Addr) (kc6 : ClassId) (cs7 : List Int32) (G1 : Int32) (h0 : Heap) (n0 : Nat) (v : Option Value) (h : Heap) (L : List Loc) : Prop := (∃ (o4 : Addr) (kc5 : ClassId), v = some (.ref ra0) ∧ Fr n0 L ∧ Keep h0 h [ra0] ∧ h0.size ≤ o4 ∧ Fld Z h ra0 cN4 "coder" "B" (.int 0) ∧ Fld Z h ra0 cN4 "count" "I" (.int 19) ∧ Fld Z h ra0 cN4 "value" "[B" (.ref o4) ∧ Arv Z h o4 kc5 .byte (34 : Int32) (own_by (cs3 ++ cs7)) (.int 0))
theorem rm19_22 l Z a0 (hw : HW Z a0) ra0 ra1 kc2 (cs3 : List Int32) ra4 ra5 kc6 (cs7 : List Int32) (G1 : Int32) h0 n0 (OLD : Old Z n0 h0) (A' : Exa Z h0 ra0 cN8) (B' : Fld Z h0 ra0 cN4 "coder" "B" (.int 0)) (C' : Fld Z h0 ra0 cN4 "count" "I" (.int 10)) (D' : Fld Z h0 ra0 cN4 "value" "[B" (.ref ra1)) (E' : cs3.length = 10) (F' : own_L cs3) (G' : Arv Z h0 ra1 kc2 .byte (16 : Int32) (own_by cs3) (.int 0)) (H' : Exa Z h0 ra4 cN6) (I' : Fld Z h0 ra4 cN6 "coder" "B" (.int 0)) (J' : Fld Z h0 ra4 cN6 "value" "[B" (.ref ra5)) (K' : cs7.length = 9) (L' : own_L cs7) (M' : Arv Z h0 ra5 kc6 .byte (9 : Int32) (own_by cs7) (.int 0)) (O2 : Sta Z Z.heap cN6 "COMPACT_STRINGS" "Z" (.int G1)) (P5 : ¬ (G1 = (0 : Int32))) (N' : n0 ≤ ra0) (ne_ra4_ra0 : ra4 ≠ ra0) (ne_ra5_ra0 : ra5 ≠ ra0) :
  own_CN l Z y9 jdk_68_method_22_code 3 (some (.object cN4)) [] R19_22 #[.ref ra0, .ref ra4] h0 (Q19_22 Z ra0 ra1 kc2 cs3 ra4 ra5 kc6 cs7 G1 h0 n0) := by
 refine own_entryN (plainFor_of_name pn_2) fun p e s m below meth c s₁ hx hby hml hown hnm hret hlk hZ hh X0 e0 => ?_
 have N0 := Fr.nil n0
 rw [ef_19_9 m ra0 ra4]
 refine og s₁ (mkF m 10 #[vR ra0, vR ra4, vU] [.ref ra4]) (fun _ k => qa X0 hx hby d19_0 rfl rfl rfl (XS.ifnonnullYes X0.here hx rfl (pc0 := 1) (pc' := 9) rfl (hb hby d19_1) rfl (by decide) (by decide) (qa X0 hx hby d19_9 rfl rfl rfl k))) ?_
 obtain ⟨T1, X1, e1, st1⟩ := own_lenA X0 hx hZ hown (ow hw 135) hw H' J' I' M' K' L' e0 (O2.ext OLD.2) P5 (g := (mkF m 10 #[vR ra0, vR ra4, vU] [.ref ra4])) rfl (zs hml) (rest := []) rfl (hb hby d19_10) (W := 0) rfl
 refine og T1 (mkF m 16 #[vR ra0, vR ra4, vI 9] [.ref ra0, .ref ra0]) (fun _ k => st1 _ (XS.istoreN X1.here hx rfl (hb hby d19_13) rfl (l' := #[vR ra0, vR ra4, vI 9]) rfl (qa X1 hx hby d19_14 rfl rfl rfl (qa X1 hx hby d19_15 rfl rfl rfl k)))) ?_
 obtain ⟨T2, X2, e2, st2⟩ := qf X1 hx hZ hown (ow hw 148) e1 C' (g := (mkF m 16 #[vR ra0, vR ra4, vI 9] [.ref ra0, .ref ra0])) rfl rfl hby d19_16
 refine og T2 (mkF m 21 #[vR ra0, vR ra4, vI 9] [.int 19, .ref ra0]) (fun _ k => st2 _ (qi X2 hx hby d19_19 rfl rfl (qp X2 hx hby d19_20 rfl rfl k))) ?_
 obtain ⟨_, T3, L3, X3, hQ3, st3⟩ := own_pc X2 hx hZ hown (ow hw 150) (ow hw 153) (ow hw 151) (ow hw 152) A' (rm22_23 l Z a0 hw ra0 ra1 kc2 cs3 h0 n0 OLD A' B' C' D' E' F' G' N') (ow hw 154) (ow hw 109) e2 (g := (mkF m 21 #[vR ra0, vR ra4, vI 9] [.int 19, .ref ra0])) rfl (zs hml) (argsL := [.int 19]) (rest := []) (lenOf pd_0 rfl) rfl (hb hby d19_21) (W := 0) rfl
 obtain ⟨o4, kc5, rfl, Nq3, K3, f6, f7, f8, f9, f10⟩ := hQ3
 have N3 := Fr.app N0 Nq3
 have g11 : n0 ≤ o4 := Nat.le_trans (own_osz OLD) f6
 have z12 : h0.size ≤ o4 := Nat.le_trans (Nat.le_refl _) f6
 refine og T3 (mkF m 26 #[vR ra0, vR ra4, vI 9] [.ref ra0, .ref ra0]) (fun _ k => st3.trans (qa X3 hx hby d19_24 rfl rfl rfl (qa X3 hx hby d19_25 rfl rfl rfl k))) ?_
 obtain ⟨T13, X13, e13, st13⟩ := qf X3 hx hZ hown (ow hw 148) rfl f8 (g := (mkF m 26 #[vR ra0, vR ra4, vI 9] [.ref ra0, .ref ra0])) rfl rfl hby d19_26
 refine og T13 (mkF m 30 #[vR ra0, vR ra4, vI 9] [.ref ra4, .int 10, .ref ra0]) (fun _ k => st13 _ (qa X13 hx hby d19_29 rfl rfl rfl k)) ?_
 have F14 := (A'.keep K3)
 have F15 := (H'.keep K3)
 have F16 := (I'.keep K3 (ninS ne_ra4_ra0 nin0))
 have F17 := (J'.keep K3 (ninS ne_ra4_ra0 nin0))
 have F18 := (M'.keep K3 (ninS ne_ra5_ra0 nin0))
 have F19 := (OLD.keep K3 (allS N' all0))
 obtain ⟨_, T20, L20, X20, hQ20, st20⟩ := own_pc X13 hx hZ hown (ow hw 155) (ow hw 158) (ow hw 156) (ow hw 157) F14 (rm23_29 l Z a0 hw ra0 o4 kc5 cs3 ra4 ra5 kc6 cs7 G1 T3.heap n0 F19 F14 f7 f8 f9 E' F' f10 F15 F16 F17 K' L' F18 O2 P5 g11) (ow hw 159) (ow hw 109) e13 (g := (mkF m 30 #[vR ra0, vR ra4, vI 9] [.ref ra4, .int 10, .ref ra0])) rfl (zs hml) (argsL := [.int 10, .ref ra4]) (rest := []) (lenOf pd_5 rfl) rfl (hb hby d19_30) (W := 0) rfl
 obtain ⟨rfl, Nq20, K20, f21⟩ := hQ20
 have N20 := Fr.app N3 Nq20
 refine og T20 (mkF m 35 #[vR ra0, vR ra4, vI 9] [.ref ra0, .ref ra0]) (fun _ k => st20.trans (qa X20 hx hby d19_33 rfl rfl rfl (XS.dup X20.here hx rfl (hb hby d19_34) rfl rfl k))) ?_
 have F22 := (f8.keep K20 (ninS (own_ne_lo A'.lt f6) nin0))
 obtain ⟨T23, X23, e23, st23⟩ := qf X20 hx hZ hown (ow hw 148) rfl F22 (g := (mkF m 35 #[vR ra0, vR ra4, vI 9] [.ref ra0, .ref ra0])) rfl rfl hby d19_35
 refine og T23 (mkF m 40 #[vR ra0, vR ra4, vI 9] [.int 19, .ref ra0]) (fun _ k => st23 _ (qi X23 hx hby d19_38 rfl rfl (qp X23 hx hby d19_39 rfl rfl k))) ?_
 have F24 := (F14.keep K20)
 obtain ⟨T25, h25, X25, e25, W25, st25⟩ := putF X23 hx hZ hown (host := "") (Or.inl (ow hw 148)) Via.refl e23 F22 F24 (Or.inl (ow hw 149)) (ow hw 100) (ty := .int) (by decide) rfl rfl (g := (mkF m 40 #[vR ra0, vR ra4, vI 9] [.int 19, .ref ra0])) rfl rfl (hb hby d19_40)
 have Fw25 := F22.same W25
 have N25 := Fr.snoc X25 N20 N'
 refine og T25 (mkF m 44 #[vR ra0, vR ra4, vI 9] [.ref ra0]) (fun _ k => st25 _ (qa X25 hx hby d19_43 rfl rfl rfl k)) ?_
 have F26 := ((f7.keep K20 (ninS (own_ne_lo A'.lt f6) nin0)).other W25 (Or.inr (slot_ne (Or.inl (ow hw 118)) (Or.inl (ow hw 149)) (by decide) (t := .byte) (t' := .int) (by decide) (by decide))))
 have F27 := ((f9.keep K20 (ninS (own_ne_lo A'.lt f6) nin0)).other W25 (Or.inr (slot_ne (Or.inl (ow hw 116)) (Or.inl (ow hw 149)) (by decide) (t := (.array .byte)) (t' := .int) (by decide) (by decide))))
 have F28 := (f21.other W25 (Ne.symm (own_ne_lo A'.lt f6)))
 have KEEP := ((((Keep.refl h0 [ra0]).trans K3 (allS (Or.inl (List.mem_of_getElem? (i := 0) rfl)) all0)).trans K20 (allS (Or.inr z12) all0)).wr W25 (Or.inl (List.mem_of_getElem? (i := 0) rfl)))
 exact own_leaveN X25 hlk (v := some (.ref ra0)) (own_nr hret) (lb rfl) (lb rfl) (by rw [e25]; exact ⟨o4, kc5, rfl, N25, KEEP, z12, F26, Fw25, F27, F28⟩) (own_ra X25 hx hret rfl rfl rfl (hb hby d19_44))
abbrev R18_21 : Room := { frames := 5, cells := 1, slots := 34, locals := 76 }
def Q18_21 (Z : State) (ra0 ra1 : Addr) (kc2 : ClassId) (cs3 : List Int32) (ra4 ra5 : Addr) (kc6 : ClassId) (cs7 : List Int32) (G1 : Int32) (h0 : Heap) (n0 : Nat) (v : Option Value) (h : Heap) (L : List Loc) : Prop := (∃ (o3 : Addr) (kc4 : ClassId), v = some (.ref ra0) ∧ Fr n0 L ∧ Keep h0 h [ra0] ∧ h0.size ≤ o3 ∧ Fld Z h ra0 cN4 "coder" "B" (.int 0) ∧ Fld Z h ra0 cN4 "count" "I" (.int 19) ∧ Fld Z h ra0 cN4 "value" "[B" (.ref o3) ∧ Arv Z h o3 kc4 .byte (34 : Int32) (own_by (cs3 ++ cs7)) (.int 0))
theorem rm18_21 l Z a0 (hw : HW Z a0) ra0 ra1 kc2 (cs3 : List Int32) ra4 ra5 kc6 (cs7 : List Int32) (G1 : Int32) h0 n0 (OLD : Old Z n0 h0) (A' : Exa Z h0 ra0 cN8) (B' : Fld Z h0 ra0 cN4 "coder" "B" (.int 0)) (C' : Fld Z h0 ra0 cN4 "count" "I" (.int 10)) (D' : Fld Z h0 ra0 cN4 "value" "[B" (.ref ra1)) (E' : cs3.length = 10) (F' : own_L cs3) (G' : Arv Z h0 ra1 kc2 .byte (16 : Int32) (own_by cs3) (.int 0)) (H' : Exa Z h0 ra4 cN6) (I' : Fld Z h0 ra4 cN6 "coder" "B" (.int 0)) (J' : Fld Z h0 ra4 cN6 "value" "[B" (.ref ra5)) (K' : cs7.length = 9) (L' : own_L cs7) (M' : Arv Z h0 ra5 kc6 .byte (9 : Int32) (own_by cs7) (.int 0)) (O2 : Sta Z Z.heap cN6 "COMPACT_STRINGS" "Z" (.int G1)) (P5 : ¬ (G1 = (0 : Int32))) (N' : n0 ≤ ra0) (ne_ra4_ra0 : ra4 ≠ ra0) (ne_ra5_ra0 : ra5 ≠ ra0) :
  own_CN l Z y10 jdk_67_method_7_code 2 (some (.object cN8)) [] R18_21 #[.ref ra0, .ref ra4] h0 (Q18_21 Z ra0 ra1 kc2 cs3 ra4 ra5 kc6 cs7 G1 h0 n0) := by
 refine own_entryN (plainFor_of_name pn_3) fun p e s m below meth c s₁ hx hby hml hown hnm hret hlk hZ hh X0 e0 => ?_
 have N0 := Fr.nil n0
 rw [ef_24_12 m ra0 ra4]
 refine og s₁ (mkF m 2 #[vR ra0, vR ra4] [.ref ra4, .ref ra0]) (fun _ k => qa X0 hx hby d18_0 rfl rfl rfl (qa X0 hx hby d18_1 rfl rfl rfl k)) ?_
 obtain ⟨_, _, ⟨T2, L2, k2, n2⟩, -, X2, ⟨Lc2, hQ2, l2, y2, z2⟩, st2⟩ := superBack X0 hx hZ (y := y9) hown (ow hw 130) (own_same (z := y4) (ow hw 153) (ow hw 131) rfl (by decide)) (ow hw 131) (ow hw 132) (by decide) (backOf (W := 0) (rm19_22 l Z a0 hw ra0 ra1 kc2 cs3 ra4 ra5 kc6 cs7 G1 h0 n0 OLD A' B' C' D' E' F' G' H' I' J' K' L' M' O2 P5 N' ne_ra4_ra0 ne_ra5_ra0) hZ (ow hw 134) (ow hw 109) (lb rfl) (lb rfl)) e0 (Ins.self A') (g := (mkF m 2 #[vR ra0, vR ra4] [.ref ra4, .ref ra0])) rfl (zs hml) (ow hw 134) (argsL := [.ref ra4]) (rest := []) (lenOf pd_6 rfl) rfl (lb rfl) (hb hby d18_2) (fun _ _ => ⟨rfl, e0, (lb rfl), (lb rfl)⟩)
 dsimp only [Pt.U, Pt.locs, Pt.cells, Pt.slots] at X2 l2 y2 z2 st2 hQ2
 subst l2 y2 z2
 obtain ⟨o3, kc4, rfl, Nq2, K2, f5, f6, f7, f8, f9⟩ := hQ2
 have N2 := Fr.app N0 Nq2
 have g10 : n0 ≤ o3 := Nat.le_trans (own_osz OLD) f5
 have z11 : h0.size ≤ o3 := Nat.le_trans (Nat.le_refl _) f5
 refine og T2 (mkF m 7 #[vR ra0, vR ra4] [.ref ra0]) (fun _ k => st2.trans (XS.pop X2.here hx rfl (hb hby d18_5) rfl rfl (qa X2 hx hby d18_6 rfl rfl rfl k))) ?_
 have KEEP := ((Keep.refl h0 [ra0]).trans K2 (allS (Or.inl (List.mem_of_getElem? (i := 0) rfl)) all0))
 exact own_leaveN X2 hlk (v := some (.ref ra0)) (own_nr hret) (lb rfl) (lb rfl) (by exact ⟨o3, kc4, rfl, N2, KEEP, z11, f6, f7, f8, f9⟩) (own_ra X2 hx hret rfl rfl rfl (hb hby d18_7))
abbrev R39_35 : Room := { frames := 0, cells := 0, slots := 0, locals := 0 }
def Q39_35 (Z : State) (ra0 ra1 : Addr) (kc2 : ClassId) (cs3 : List Int32) (h0 : Heap) (n0 : Nat) (v : Option Value) (h : Heap) (L : List Loc) : Prop := (v = some (.ref ra1) ∧ Fr n0 L ∧ h = h0)
theorem rm39_35 l Z a0 (hw : HW Z a0) ra0 ra1 kc2 (cs3 : List Int32) h0 n0 (OLD : Old Z n0 h0) (A' : Exa Z h0 ra0 cN8) (B' : Fld Z h0 ra0 cN4 "coder" "B" (.int 0)) (C' : Fld Z h0 ra0 cN4 "count" "I" (.int 19)) (D' : Fld Z h0 ra0 cN4 "value" "[B" (.ref ra1)) (E' : cs3.length = 19) (F' : own_L cs3) (G' : Arv Z h0 ra1 kc2 .byte (34 : Int32) (own_by cs3) (.int 0)) :
  own_CN l Z y21 jdk_68_method_64_code 1 (some (.array .byte)) [] R39_35 #[.ref ra0] h0 (Q39_35 Z ra0 ra1 kc2 cs3 h0 n0) := by
 refine own_entryN (plainFor_of_name pn_2) fun p e s m below meth c s₁ hx hby hml hown hnm hret hlk hZ hh X0 e0 => ?_
 have N0 := Fr.nil n0
 rw [ef_26_1 m ra0]
 refine og s₁ (mkF m 1 #[vR ra0] [.ref ra0]) (fun _ k => qa X0 hx hby d39_0 rfl rfl rfl k) ?_
 obtain ⟨T1, X1, e1, st1⟩ := qf X0 hx hZ hown (ow hw 115) e0 D' (g := (mkF m 1 #[vR ra0] [.ref ra0])) rfl rfl hby d39_1
 refine og T1 (mkF m 4 #[vR ra0] [.ref ra1]) st1 ?_
 exact own_leaveN X1 hlk (v := some (.ref ra1)) (own_nr hret) (lb rfl) (lb rfl) (by rw [e1]; exact ⟨rfl, N0, rfl⟩) (own_ra X1 hx hret rfl rfl rfl (hb hby d39_4))
abbrev R41_37 : Room := { frames := 0, cells := 0, slots := 0, locals := 0 }
def Q41_37 (Z : State) (ra0 ra1 : Addr) (kc2 : ClassId) (cs3 : List Int32) (h0 : Heap) (n0 : Nat) (v : Option Value) (h : Heap) (L : List Loc) : Prop := (v = some (.int 19) ∧ Fr n0 L ∧ h = h0)
theorem rm41_37 l Z a0 (hw : HW Z a0) ra0 ra1 kc2 (cs3 : List Int32) h0 n0 (OLD : Old Z n0 h0) (A' : Exa Z h0 ra0 cN8) (B' : Fld Z h0 ra0 cN4 "coder" "B" (.int 0)) (C' : Fld Z h0 ra0 cN4 "count" "I" (.int 19)) (D' : Fld Z h0 ra0 cN4 "value" "[B" (.ref ra1)) (E' : cs3.length = 19) (F' : own_L cs3) (G' : Arv Z h0 ra1 kc2 .byte (34 : Int32) (own_by cs3) (.int 0)) :
  own_CN l Z y22 jdk_68_method_6_code 1 (some .int) [] R41_37 #[.ref ra0] h0 (Q41_37 Z ra0 ra1 kc2 cs3 h0 n0) := by
 refine own_entryN (plainFor_of_name pn_2) fun p e s m below meth c s₁ hx hby hml hown hnm hret hlk hZ hh X0 e0 => ?_
 have N0 := Fr.nil n0
 rw [ef_26_1 m ra0]
 refine og s₁ (mkF m 1 #[vR ra0] [.ref ra0]) (fun _ k => qa X0 hx hby d41_0 rfl rfl rfl k) ?_
 obtain ⟨T1, X1, e1, st1⟩ := qf X0 hx hZ hown (ow hw 148) e0 C' (g := (mkF m 1 #[vR ra0] [.ref ra0])) rfl rfl hby d41_1
 refine og T1 (mkF m 4 #[vR ra0] [.int 19]) st1 ?_
 exact own_leaveN X1 hlk (v := some (.int 19)) (own_nr hret) (lb rfl) (lb rfl) (by rw [e1]; exact ⟨rfl, N0, rfl⟩) (fun fs hr => retI X1 hx hret (hb hby d41_4) hr)
abbrev R40_36 : Room := { frames := 1, cells := 0, slots := 0, locals := 12 }
def Q40_36 (Z : State) (ra0 ra1 : Addr) (kc2 : ClassId) (cs3 : List Int32) (h0 : Heap) (n0 : Nat) (v : Option Value) (h : Heap) (L : List Loc) : Prop := (v = some (.int 19) ∧ Fr n0 L ∧ h = h0)
theorem rm40_36 l Z a0 (hw : HW Z a0) ra0 ra1 kc2 (cs3 : List Int32) h0 n0 (OLD : Old Z n0 h0) (A' : Exa Z h0 ra0 cN8) (B' : Fld Z h0 ra0 cN4 "coder" "B" (.int 0)) (C' : Fld Z h0 ra0 cN4 "count" "I" (.int 19)) (D' : Fld Z h0 ra0 cN4 "value" "[B" (.ref ra1)) (E' : cs3.length = 19) (F' : own_L cs3) (G' : Arv Z h0 ra1 kc2 .byte (34 : Int32) (own_by cs3) (.int 0)) :
  own_CN l Z y23 jdk_67_method_93_code 1 (some .int) [] R40_36 #[.ref ra0] h0 (Q40_36 Z ra0 ra1 kc2 cs3 h0 n0) := by
 refine own_entryN (plainFor_of_name pn_3) fun p e s m below meth c s₁ hx hby hml hown hnm hret hlk hZ hh X0 e0 => ?_
 have N0 := Fr.nil n0
 rw [ef_26_1 m ra0]
 refine og s₁ (mkF m 1 #[vR ra0] [.ref ra0]) (fun _ k => qa X0 hx hby d40_0 rfl rfl rfl k) ?_
 obtain ⟨_, _, ⟨T2, L2, k2, n2⟩, -, X2, ⟨Lc2, hQ2, l2, y2, z2⟩, st2⟩ := superBack X0 hx hZ (y := y22) hown (ow hw 255) (own_same (z := y4) (ow hw 153) (ow hw 251) rfl (by decide)) (ow hw 251) (ow hw 132) (by decide) (backOf (W := 0) (rm41_37 l Z a0 hw ra0 ra1 kc2 cs3 h0 n0 OLD A' B' C' D' E' F' G') hZ (ow hw 256) (ow hw 109) (lb rfl) (lb rfl)) e0 (Ins.self A') (g := (mkF m 1 #[vR ra0] [.ref ra0])) rfl (zs hml) (ow hw 256) (argsL := []) (rest := []) (lenOf pd_17 rfl) rfl (lb rfl) (hb hby d40_1) (fun _ _ => ⟨rfl, e0, (lb rfl), (lb rfl)⟩)
 dsimp only [Pt.U, Pt.locs, Pt.cells, Pt.slots] at X2 l2 y2 z2 st2 hQ2
 subst l2 y2 z2
 obtain ⟨rfl, Nq2, eq2⟩ := hQ2
 have N2 := Fr.app N0 Nq2
 refine ot T2 (mkF m 4 #[vR ra0] [.int 19]) st2 ?_
 exact own_leaveN X2 hlk (v := some (.int 19)) (own_nr hret) (lb rfl) (lb rfl) (by rw [eq2]; exact ⟨rfl, N2, rfl⟩) (fun fs hr => retI X2 hx hret (hb hby d40_4) hr)
abbrev R30_38 : Room := { frames := 0, cells := 0, slots := 0, locals := 0 }
def Q30_38 (Z : State) (ra0 ra1 : Addr) (kc2 : ClassId) (cs3 : List Int32) (G1 : Int32) (h0 : Heap) (n0 : Nat) (v : Option Value) (h : Heap) (L : List Loc) : Prop := (v = some (.int 1) ∧ Fr n0 L ∧ h = h0)
theorem rm30_38 l Z a0 (hw : HW Z a0) ra0 ra1 kc2 (cs3 : List Int32) (G1 : Int32) h0 n0 (OLD : Old Z n0 h0) (A' : Exa Z h0 ra0 cN8) (B' : Fld Z h0 ra0 cN4 "coder" "B" (.int 0)) (C' : Fld Z h0 ra0 cN4 "count" "I" (.int 19)) (D' : Fld Z h0 ra0 cN4 "value" "[B" (.ref ra1)) (E' : cs3.length = 19) (F' : own_L cs3) (G' : Arv Z h0 ra1 kc2 .byte (34 : Int32) (own_by cs3) (.int 0)) (O2 : Sta Z Z.heap cN6 "COMPACT_STRINGS" "Z" (.int G1)) (P5 : ¬ (G1 = (0 : Int32))) :
  own_CN l Z y12 jdk_68_method_68_code 1 (some .boolean) [] R30_38 #[.ref ra0] h0 (Q30_38 Z ra0 ra1 kc2 cs3 G1 h0 n0) := by
 refine own_entryN (plainFor_of_name pn_2) fun p e s m below meth c s₁ hx hby hml hown hnm hret hlk hZ hh X0 e0 => ?_
 have N0 := Fr.nil n0
 rw [ef_26_1 m ra0]
 obtain ⟨T1, X1, e1, st1⟩ := getS2 X0 hx hZ hown (host := "") (Or.inl (ow hw 112)) Via.refl e0 (O2.ext OLD.2) (g := (mkF m 0 #[vR ra0] [])) rfl (hb hby d30_0)
 refine og T1 (mkF m 7 #[vR ra0] [.ref ra0]) (fun _ k => st1 _ (XS.ifNo X1.here hx rfl (hb hby d30_3) rfl ((if0 _ _).trans (feq P5).1) (qa X1 hx hby d30_6 rfl rfl rfl k))) ?_
 obtain ⟨T2, X2, e2, st2⟩ := qf X1 hx hZ hown (ow hw 117) e1 B' (g := (mkF m 7 #[vR ra0] [.ref ra0])) rfl rfl hby d30_7
 refine og T2 (mkF m 18 #[vR ra0] [.int 1]) (fun _ k => st2 _ (XS.ifNo X2.here hx rfl (hb hby d30_10) rfl ((if0 _ _).trans (tq 0)) (qc X2 hx hby d30_13 rfl (XS.goto X2.here hx rfl (pc0 := 14) (pc' := 18) rfl (hb hby d30_14) (by decide) (by decide) k)))) ?_
 exact own_leaveN X2 hlk (v := some (.int (nar .boolean (1 : Int32)))) (own_nr hret) (lb rfl) (lb rfl) (by rw [e2]; exact ⟨rfl, N0, rfl⟩) (fun fs hr => retN X2 hx (t := .boolean) hret (by simp) (hb hby d30_18) hr)
abbrev R44_41 : Room := { frames := 0, cells := 0, slots := 0, locals := 0 }
def Q44_41 (Z : State)  (h0 : Heap) (n0 : Nat) (v : Option Value) (h : Heap) (L : List Loc) : Prop := (v = none ∧ Fr n0 L ∧ h = h0)
theorem rm44_41 l Z a0 (hw : HW Z a0)  h0 n0 (OLD : Old Z n0 h0) :
  own_CN l Z y24 jdk_65_method_131_code 2 none [] R44_41 #[.int 0, .int 19] h0 (Q44_41 Z  h0 n0) := by
 refine own_entryN (plainFor_of_name pn_7) fun p e s m below meth c s₁ hx hby hml hown hnm hret hlk hZ hh X0 e0 => ?_
 have N0 := Fr.nil n0
 rw [ef_44_41 m ]
 refine og s₁ (mkF m 37 #[vI 0, vI 19] []) (fun _ k => qi X0 hx hby d44_0 rfl rfl (qi X0 hx hby d44_1 rfl rfl (XS.icmpYes X0.here hx rfl (pc0 := 2) (pc' := 37) rfl (hb hby d44_2) rfl (flt (by decide : ¬ ((19 : Int32) < (0 : Int32)))).2.1 (by decide) (by decide) k))) ?_
 exact own_leaveN X0 hlk (v := none) (fun _ => rfl) (lb rfl) (lb rfl) (by rw [e0]; exact ⟨rfl, N0, rfl⟩) (fun fs hr => X0.returnOut hx hret (hb hby d44_37) hr)
abbrev R35_42 : Room := { frames := 0, cells := 0, slots := 0, locals := 0 }
def Q35_42 (Z : State)  (h0 : Heap) (n0 : Nat) (v : Option Value) (h : Heap) (L : List Loc) : Prop := (v = some (.int 19) ∧ Fr n0 L ∧ h = h0)
theorem rm35_42 l Z a0 (hw : HW Z a0)  h0 n0 (OLD : Old Z n0 h0) :
  own_CN l Z y19 jdk_29_method_69_code 2 (some .int) [] R35_42 #[.int 34, .int 19] h0 (Q35_42 Z  h0 n0) := by
 refine own_entryN (Jvm.Free.JP.mathPlain rfl (by decide +kernel)) fun p e s m below meth c s₁ hx hby hml hown hnm hret hlk hZ hh X0 e0 => ?_
 have N0 := Fr.nil n0
 rw [ef_35_42 m ]
 refine og s₁ (mkF m 10 #[vI 34, vI 19] [.int 19]) (fun _ k => qi X0 hx hby d35_0 rfl rfl (qi X0 hx hby d35_1 rfl rfl (XS.icmpYes X0.here hx rfl (pc0 := 2) (pc' := 9) rfl (hb hby d35_2) rfl (tlt (by decide : (19 : Int32) < (34 : Int32))).2.2.1 (by decide) (by decide) (qi X0 hx hby d35_9 rfl rfl k)))) ?_
 exact own_leaveN X0 hlk (v := some (.int 19)) (own_nr hret) (lb rfl) (lb rfl) (by rw [e0]; exact ⟨rfl, N0, rfl⟩) (fun fs hr => retI X0 hx hret (hb hby d35_10) hr)
abbrev R43_40 : Room := { frames := 1, cells := 1, slots := 19, locals := 18 }
def Q43_40 (Z : State) (ra0 : Addr) (kc1 : ClassId) (cs2 : List Int32) (h0 : Heap) (n0 : Nat) (v : Option Value) (h : Heap) (L : List Loc) : Prop := (∃ (b2 : Addr) (k2 : ClassId), v = some (.ref b2) ∧ Fr n0 L ∧ Keep h0 h [] ∧ h0.size ≤ b2 ∧ Arv Z h b2 k2 .byte (19 : Int32) (own_by cs2) (.int 0))
theorem rm43_40 l Z a0 (hw : HW Z a0) ra0 kc1 (cs2 : List Int32) h0 n0 (OLD : Old Z n0 h0) (A' : cs2.length = 19) (B' : own_L cs2) (C' : Arv Z h0 ra0 kc1 .byte (34 : Int32) (own_by cs2) (.int 0)) :
  own_CN l Z y25 jdk_65_method_133_code 5 (some (.array .byte)) [] R43_40 #[.ref ra0, .int 0, .int 19] h0 (Q43_40 Z ra0 kc1 cs2 h0 n0) := by
 refine own_entryN (plainFor_of_name pn_7) fun p e s m below meth c s₁ hx hby hml hown hnm hret hlk hZ hh X0 e0 => ?_
 have N0 := Fr.nil n0
 rw [ef_43_40 m ra0]
 refine og s₁ (mkF m 2 #[vR ra0, vI 0, vI 19, vU, vU] [.int 19, .int 0]) (fun _ k => qi X0 hx hby d43_0 rfl rfl (qi X0 hx hby d43_1 rfl rfl k)) ?_
 obtain ⟨_, T1, L1, X1, hQ1, st1⟩ := own_tc X0 hx hZ hown (ow hw 264) (ow hw 265) (rm44_41 l Z a0 hw  h0 n0 OLD ) (ow hw 266) (ow hw 224) e0 (g := (mkF m 2 #[vR ra0, vI 0, vI 19, vU, vU] [.int 19, .int 0])) rfl (zs hml) (argsL := [.int 0, .int 19]) (rest := []) (lenOf pd_18 rfl) rfl (hb hby d43_2) (W := 0) rfl
 obtain ⟨rfl, Nq1, eq1⟩ := hQ1
 have N1 := Fr.app N0 Nq1
 refine og T1 (mkF m 10 #[vR ra0, vI 0, vI 19, vI 19, vU] [.int 19]) (fun _ k => st1.trans (qi X1 hx hby d43_5 rfl rfl (qi X1 hx hby d43_6 rfl rfl (XS.isub X1.here hx rfl (hb hby d43_7) rfl (XS.istoreN X1.here hx rfl (hb hby d43_8) rfl (l' := #[vR ra0, vI 0, vI 19, vI 19, vU]) rfl (qi X1 hx hby d43_9 rfl rfl k)))))) ?_
 obtain ⟨T2, h2, k2, X2, e2, E2, A2, st2⟩ := newP X1 hx hZ (ow hw 114) eq1 (g := (mkF m 10 #[vR ra0, vI 0, vI 19, vI 19, vU] [.int 19])) rfl (hb hby d43_10) rfl (by decide) (cap := 19) (by decide) (lb rfl) (lb rfl) (lb rfl)
 obtain ⟨b2, gb2⟩ : ∃ z, z = h0.size := ⟨_, rfl⟩
 rw [← gb2] at A2 st2
 have g3 : n0 ≤ b2 := Nat.le_trans (own_osz OLD) (Nat.le_of_eq gb2.symm)
 have z4 : h0.size ≤ b2 := Nat.le_trans (Nat.le_refl _) (Nat.le_of_eq gb2.symm)
 have V2 : Arv Z h2 b2 k2 .byte (19 : Int32) (own_by ([] : List Int32)) (.int 0) := Arv.new A2 (by decide)
 refine og T2 (mkF m 20 #[vR ra0, vI 0, vI 19, vI 19, vR b2] [.ref ra0, .int 0, .ref b2, .int 0, .ref ra0]) (fun _ k => st2 _ (XS.astore X2.here hx rfl (hb hby d43_12) rfl rfl (l' := #[vR ra0, vI 0, vI 19, vI 19, vR b2]) rfl (qa X2 hx hby d43_14 rfl rfl rfl (qi X2 hx hby d43_15 rfl rfl (XS.aload X2.here hx rfl (hb hby d43_16) rfl rfl (qc X2 hx hby d43_18 rfl (qa X2 hx hby d43_19 rfl rfl rfl k))))))) ?_
 have F5 := (C'.ext E2)
 obtain ⟨cl6, Ar6, -, Sr6, Nr6, -, -⟩ := id F5
 refine og T2 (mkF m 21 #[vR ra0, vI 0, vI 19, vI 19, vR b2] [.int 34, .int 0, .ref b2, .int 0, .ref ra0]) (fun t k => X2.arraylength hx (by rw [e2]; exact Ar6.1) (State.isArrayOf_alike hZ.alike Ar6.2.1) (g := (mkF m 20 #[vR ra0, vI 0, vI 19, vI 19, vR b2] [.ref ra0, .int 0, .ref b2, .int 0, .ref ra0])) rfl rfl (hb hby d43_20) t (by rw [len_of Sr6 Nr6]; exact k)) ?_
 refine og T2 (mkF m 24 #[vR ra0, vI 0, vI 19, vI 19, vR b2] [.int 19, .int 34, .int 0, .ref b2, .int 0, .ref ra0]) (fun _ k => qi X2 hx hby d43_21 rfl rfl (XS.isub X2.here hx rfl (hb hby d43_22) rfl (qi X2 hx hby d43_23 rfl rfl k))) ?_
 have F7 := (OLD.ext E2)
 obtain ⟨_, T8, L8, X8, hQ8, st8⟩ := own_tc X2 hx hZ hown (ow hw 226) (ow hw 227) (rm35_42 l Z a0 hw  h2 n0 F7 ) (ow hw 228) (ow hw 89) e2 (g := (mkF m 24 #[vR ra0, vI 0, vI 19, vI 19, vR b2] [.int 19, .int 34, .int 0, .ref b2, .int 0, .ref ra0])) rfl (zs hml) (argsL := [.int 34, .int 19]) (rest := [.int 0, .ref b2, .int 0, .ref ra0]) (lenOf pd_13 rfl) rfl (hb hby d43_24) (W := 4) rfl
 obtain ⟨rfl, Nq8, eq8⟩ := hQ8
 have N8 := Fr.app N1 Nq8
 refine ot T8 (mkF m 27 #[vR ra0, vI 0, vI 19, vI 19, vR b2] [.int 19, .int 0, .ref b2, .int 0, .ref ra0]) st8 ?_
 obtain ⟨T9, h9, L9, X9, e9, N9, K9, Vq9, st9⟩ := own_cpB X8 hx hZ hown (ow hw 229) (ow hw 174) (ow hw 172) (ow hw 173) eq8 F5 V2 (sp := (0 : Int32)) (dp := (0 : Int32)) (nn := (19 : Int32)) rfl (by decide) (by decide) (by decide) (by decide) (show _ = _ from rfl) ((Eq.symm A') ▸ lb rfl) N8 g3 (g := (mkF m 27 #[vR ra0, vI 0, vI 19, vI 19, vR b2] [.int 19, .int 0, .ref b2, .int 0, .ref ra0])) rfl (zs hml) rfl (hb hby d43_27) (lb rfl) (W := 0) (lb rfl) (lb rfl)
 have V9 : Arv Z h9 b2 k2 .byte (19 : Int32) (own_by cs2) (.int 0) := (by simpa using Vq9)
 refine og T9 (mkF m 32 #[vR ra0, vI 0, vI 19, vI 19, vR b2] [.ref b2]) (fun _ k => st9 _ (XS.aload X9.here hx rfl (hb hby d43_30) rfl rfl k)) ?_
 have KEEP := (((Keep.refl h0 []).ext E2).trans K9 (allS (Or.inr z4) all0))
 exact own_leaveN X9 hlk (v := some (.ref b2)) (own_nr hret) (lb rfl) (lb rfl) (by rw [e9]; exact ⟨b2, k2, rfl, N9, KEEP, z4, V9⟩) (own_ra X9 hx hret rfl rfl rfl (hb hby d43_32))
abbrev R42_39 : Room := { frames := 2, cells := 1, slots := 19, locals := 34 }
def Q42_39 (Z : State) (ra0 : Addr) (kc1 : ClassId) (cs2 : List Int32) (h0 : Heap) (n0 : Nat) (v : Option Value) (h : Heap) (L : List Loc) : Prop := (∃ (o3 : Addr) (kc4 : ClassId), v = some (.ref o3) ∧ Fr n0 L ∧ Keep h0 h [] ∧ h0.size ≤ o3 ∧ Arv Z h o3 kc4 .byte (19 : Int32) (own_by cs2) (.int 0))
theorem rm42_39 l Z a0 (hw : HW Z a0) ra0 kc1 (cs2 : List Int32) h0 n0 (OLD : Old Z n0 h0) (A' : cs2.length = 19) (B' : own_L cs2) (C' : Arv Z h0 ra0 kc1 .byte (34 : Int32) (own_by cs2) (.int 0)) :
  own_CN l Z y26 jdk_65_method_132_code 3 (some (.array .byte)) [] R42_39 #[.ref ra0, .int 0, .int 19] h0 (Q42_39 Z ra0 kc1 cs2 h0 n0) := by
 refine own_entryN (plainFor_of_name pn_7) fun p e s m below meth c s₁ hx hby hml hown hnm hret hlk hZ hh X0 e0 => ?_
 have N0 := Fr.nil n0
 rw [ef_42_39 m ra0]
 refine og s₁ (mkF m 6 #[vR ra0, vI 0, vI 19] [.ref ra0, .int 19]) (fun _ k => qi X0 hx hby d42_0 rfl rfl (XS.ifNo X0.here hx rfl (hb hby d42_1) rfl ((if0 _ _).trans (tq 0)) (qi X0 hx hby d42_4 rfl rfl (qa X0 hx hby d42_5 rfl rfl rfl k)))) ?_
 obtain ⟨cl1, Ar1, -, Sr1, Nr1, -, -⟩ := id C'
 refine og s₁ (mkF m 7 #[vR ra0, vI 0, vI 19] [.int 34, .int 19]) (fun t k => X0.arraylength hx (by rw [e0]; exact Ar1.1) (State.isArrayOf_alike hZ.alike Ar1.2.1) (g := (mkF m 6 #[vR ra0, vI 0, vI 19] [.ref ra0, .int 19])) rfl rfl (hb hby d42_6) t (by rw [len_of Sr1 Nr1]; exact k)) ?_
 refine og s₁ (mkF m 13 #[vR ra0, vI 0, vI 19] [.int 19, .int 0, .ref ra0]) (fun _ k => qn X0 hx hby d42_7 rfl rfl (feq (by decide : ¬ ((19 : Int32) = (34 : Int32)))).1 (qa X0 hx hby d42_10 rfl rfl rfl (qi X0 hx hby d42_11 rfl rfl (qi X0 hx hby d42_12 rfl rfl k)))) ?_
 obtain ⟨_, T2, L2, X2, hQ2, st2⟩ := own_tc X0 hx hZ hown (ow hw 261) (ow hw 262) (rm43_40 l Z a0 hw ra0 kc1 cs2 h0 n0 OLD A' B' C') (ow hw 263) (ow hw 224) e0 (g := (mkF m 13 #[vR ra0, vI 0, vI 19] [.int 19, .int 0, .ref ra0])) rfl (zs hml) (argsL := [.ref ra0, .int 0, .int 19]) (rest := []) (lenOf pd_19 rfl) rfl (hb hby d42_13) (W := 0) rfl
 obtain ⟨o3, kc4, rfl, Nq2, K2, f5, f6⟩ := hQ2
 have N2 := Fr.app N0 Nq2
 have g7 : n0 ≤ o3 := Nat.le_trans (own_osz OLD) f5
 have z8 : h0.size ≤ o3 := Nat.le_trans (Nat.le_refl _) f5
 refine ot T2 (mkF m 16 #[vR ra0, vI 0, vI 19] [.ref o3]) st2 ?_
 have KEEP := ((Keep.refl h0 []).trans K2 all0)
 exact own_leaveN X2 hlk (v := some (.ref o3)) (own_nr hret) (lb rfl) (lb rfl) (by exact ⟨o3, kc4, rfl, N2, KEEP, z8, f6⟩) (own_ra X2 hx hret rfl rfl rfl (hb hby d42_16))
abbrev R38_34 : Room := { frames := 3, cells := 1, slots := 19, locals := 49 }
def Q38_34 (Z : State) (ra0 ra1 ra2 : Addr) (kc3 : ClassId) (cs4 : List Int32) (G1 : Int32) (h0 : Heap) (n0 : Nat) (v : Option Value) (h : Heap) (L : List Loc) : Prop := (∃ (o10 : Addr) (kc11 : ClassId), v = none ∧ Fr n0 L ∧ Keep h0 h [ra0] ∧ h0.size ≤ o10 ∧ Fld Z h ra0 cN6 "coder" "B" (.int 0) ∧ Fld Z h ra0 cN6 "value" "[B" (.ref o10) ∧ Arv Z h o10 kc11 .byte (19 : Int32) (own_by cs4) (.int 0))
theorem rm38_34 l Z a0 (hw : HW Z a0) ra0 ra1 ra2 kc3 (cs4 : List Int32) (G1 : Int32) h0 n0 (OLD : Old Z n0 h0) (A' : Exa Z h0 ra0 cN6) (B' : Fld Z h0 ra0 cN6 "coder" "B" (.int 0)) (C' : Fld Z h0 ra0 cN6 "value" "[B" .null) (D' : Exa Z h0 ra1 cN8) (E' : Fld Z h0 ra1 cN4 "coder" "B" (.int 0)) (F' : Fld Z h0 ra1 cN4 "count" "I" (.int 19)) (G' : Fld Z h0 ra1 cN4 "value" "[B" (.ref ra2)) (H' : cs4.length = 19) (I' : own_L cs4) (J' : Arv Z h0 ra2 kc3 .byte (34 : Int32) (own_by cs4) (.int 0)) (O2 : Sta Z Z.heap cN6 "COMPACT_STRINGS" "Z" (.int G1)) (P5 : ¬ (G1 = (0 : Int32))) (K' : n0 ≤ ra0) (ne_ra2_ra0 : ra2 ≠ ra0) :
  own_CN l Z y27 jdk_42_method_150_code 5 none [] R38_34 #[.ref ra0, .ref ra1, .null] h0 (Q38_34 Z ra0 ra1 ra2 kc3 cs4 G1 h0 n0) := by
 refine own_entryN (plainFor_of_name pn_4) fun p e s m below meth c s₁ hx hby hml hown hnm hret hlk hZ hh X0 e0 => ?_
 have N0 := Fr.nil n0
 rw [ef_38_34 m ra0 ra1]
 refine og s₁ (mkF m 1 #[vR ra0, vR ra1, vN, vU, vU] [.ref ra0]) (fun _ k => qa X0 hx hby d38_0 rfl rfl rfl k) ?_
 obtain ⟨T1, X1, e1, st1⟩ := initO X0 hx hZ hown (ow hw 243) (ow hw 23) (ow hw 24) e0 (g := (mkF m 1 #[vR ra0, vR ra1, vN, vU, vU] [.ref ra0])) rfl (zs hml) rfl (hb hby d38_1) (by decide) (W := 0) (lb rfl) (by decide)
 refine og T1 (mkF m 5 #[vR ra0, vR ra1, vN, vU, vU] [.ref ra1]) (fun _ k => st1 _ (qa X1 hx hby d38_4 rfl rfl rfl k)) ?_
 obtain ⟨_, T2, L2, X2, hQ2, st2⟩ := own_vc X1 hx hZ hown (ow hw 244) (ow hw 245) (ow hw 247) (ow hw 246) D' (rm39_35 l Z a0 hw ra1 ra2 kc3 cs4 h0 n0 OLD D' E' F' G' H' I' J') (ow hw 248) (ow hw 109) e1 (g := (mkF m 5 #[vR ra0, vR ra1, vN, vU, vU] [.ref ra1])) rfl (zs hml) (argsL := []) (rest := []) (lenOf pd_16 rfl) rfl (hb hby d38_5) (W := 0) rfl
 obtain ⟨rfl, Nq2, eq2⟩ := hQ2
 have N2 := Fr.app N0 Nq2
 refine og T2 (mkF m 10 #[vR ra0, vR ra1, vN, vR ra2, vU] [.ref ra1]) (fun _ k => st2.trans (XS.astoreN X2.here hx rfl (hb hby d38_8) rfl rfl (l' := #[vR ra0, vR ra1, vN, vR ra2, vU]) rfl (qa X2 hx hby d38_9 rfl rfl rfl k))) ?_
 obtain ⟨cq4, kq4, q4a, q4b, q4c⟩ := isOf hZ eq2 D'
 obtain ⟨_, _, ⟨T4, L4, k4, n4⟩, -, X4, ⟨Lc4, hQ4, l4, y4, z4⟩, st4⟩ := X2.virtualBack hx (y := y22) (z := y23) hown (mvT hZ (ow hw 249)) (mvT hZ (ow hw 250)) (own_nf (args := #[]) (z := y4) (mvT hZ (ow hw 153)) rfl) (mvT hZ (ow hw 252)) (mvT hZ (ow hw 253)) (by decide) (backOf (W := 0) (rm40_36 l Z a0 hw ra1 ra2 kc3 cs4 h0 n0 OLD D' E' F' G' H' I' J') hZ (ow hw 254) (ow hw 101) (lb rfl) (lb rfl)) q4a q4c (g := (mkF m 10 #[vR ra0, vR ra1, vN, vR ra2, vU] [.ref ra1])) rfl (zs hml) (Steps.refl _) (argsL := []) (rest := []) (lenOf pd_17 rfl) rfl (lb rfl) (hb hby d38_10) (fun _ _ => ⟨rfl, eq2, (lb rfl), (lb rfl)⟩)
 dsimp only [Pt.U, Pt.locs, Pt.cells, Pt.slots] at X4 l4 y4 z4 st4 hQ4
 subst l4 y4 z4
 obtain ⟨rfl, Nq4, eq4⟩ := hQ4
 have N4 := Fr.app N2 Nq4
 refine og T4 (mkF m 16 #[vR ra0, vR ra1, vN, vR ra2, vI 19] [.ref ra1]) (fun _ k => st4.trans (XS.istore X4.here hx rfl (hb hby d38_13) rfl (l' := #[vR ra0, vR ra1, vN, vR ra2, vI 19]) rfl (qa X4 hx hby d38_15 rfl rfl rfl k))) ?_
 obtain ⟨_, T5, L5, X5, hQ5, st5⟩ := own_vc X4 hx hZ hown (ow hw 257) (ow hw 201) (ow hw 203) (ow hw 202) D' (rm30_38 l Z a0 hw ra1 ra2 kc3 cs4 G1 h0 n0 OLD D' E' F' G' H' I' J' O2 P5) (ow hw 204) (ow hw 109) eq4 (g := (mkF m 16 #[vR ra0, vR ra1, vN, vR ra2, vI 19] [.ref ra1])) rfl (zs hml) (argsL := []) (rest := []) (lenOf pd_9 rfl) rfl (hb hby d38_16) (W := 0) rfl
 obtain ⟨rfl, Nq5, eq5⟩ := hQ5
 have N5 := Fr.app N4 Nq5
 refine og T5 (mkF m 24 #[vR ra0, vR ra1, vN, vR ra2, vI 19] [.int 0, .ref ra0]) (fun _ k => st5.trans (XS.ifNo X5.here hx rfl (hb hby d38_19) rfl ((if0 _ _).trans (feq (by decide : ¬ ((1 : Int32) = (0 : Int32)))).1) (qa X5 hx hby d38_22 rfl rfl rfl (qc X5 hx hby d38_23 rfl k)))) ?_
 obtain ⟨T6, h6, X6, e6, W6, st6⟩ := putFN X5 hx hZ hown (ow hw 147) Via.refl eq5 B' A' (Or.inr ⟨(ow hw 122), rfl, hnm⟩) (ow hw 120) (ty := .byte) (v' := (.int (nar .byte (0 : Int32)))) (by decide) rfl (fits_nar_byte _) (g := (mkF m 24 #[vR ra0, vR ra1, vN, vR ra2, vI 19] [.int 0, .ref ra0])) rfl rfl (hb hby d38_24)
 rw [show nar .byte (0 : Int32) = (0 : Int32) from rfl] at W6
 have Fw6 := B'.same W6
 have N6 := Fr.snoc X6 N5 K'
 refine og T6 (mkF m 32 #[vR ra0, vR ra1, vN, vR ra2, vI 19] [.int 19, .int 0, .ref ra2, .ref ra0]) (fun _ k => st6 _ (qa X6 hx hby d38_27 rfl rfl rfl (qa X6 hx hby d38_28 rfl rfl rfl (qc X6 hx hby d38_29 rfl (XS.iload X6.here hx rfl (hb hby d38_30) rfl k))))) ?_
 have F7 := (J'.other W6 ne_ra2_ra0)
 have F8 := (OLD.wr W6 K')
 obtain ⟨_, T9, L9, X9, hQ9, st9⟩ := own_tc X6 hx hZ hown (ow hw 258) (ow hw 259) (rm42_39 l Z a0 hw ra2 kc3 cs4 h6 n0 F8 H' I' F7) (ow hw 260) (ow hw 224) e6 (g := (mkF m 32 #[vR ra0, vR ra1, vN, vR ra2, vI 19] [.int 19, .int 0, .ref ra2, .ref ra0])) rfl (zs hml) (argsL := [.ref ra2, .int 0, .int 19]) (rest := [.ref ra0]) (lenOf pd_19 rfl) rfl (hb hby d38_32) (W := 1) rfl
 obtain ⟨o10, kc11, rfl, Nq9, K9, f12, f13⟩ := hQ9
 have N9 := Fr.app N6 Nq9
 have g14 : n0 ≤ o10 := Nat.le_trans (own_osz F8) f12
 have F16 := (Nat.le_trans (Nat.le_refl _) (Nat.le_of_eq W6.size.symm))
 have z15 : h0.size ≤ o10 := Nat.le_trans F16 f12
 refine ot T9 (mkF m 35 #[vR ra0, vR ra1, vN, vR ra2, vI 19] [.ref o10, .ref ra0]) st9 ?_
 have F17 := ((A'.wr W6).keep K9)
 have F18 := ((C'.other W6 (Or.inr (slot_ne (Or.inr (ow hw 121)) (Or.inr (ow hw 122)) (by decide) (t := (.array .byte)) (t' := .byte) (by decide) (by decide)))).keep K9 nin0)
 obtain ⟨T19, h19, X19, e19, W19, st19⟩ := putF X9 hx hZ hown (host := "") (Or.inl (ow hw 140)) Via.refl rfl F18 F17 (Or.inr ⟨(ow hw 121), rfl, hnm⟩) (ow hw 120) (ty := (.array .byte)) (by decide) rfl rfl (g := (mkF m 35 #[vR ra0, vR ra1, vN, vR ra2, vI 19] [.ref o10, .ref ra0])) rfl rfl (hb hby d38_35)
 have Fw19 := F18.same W19
 have N19 := Fr.snoc X19 N9 K'
 refine og T19 (mkF m 97 #[vR ra0, vR ra1, vN, vR ra2, vI 19] []) (fun _ k => st19 _ (XS.goto X19.here hx rfl (pc0 := 38) (pc' := 97) rfl (hb hby d38_38) (by decide) (by decide) k)) ?_
 have F20 := ((Fw6.keep K9 nin0).other W19 (Or.inr (slot_ne (Or.inr (ow hw 122)) (Or.inr (ow hw 121)) (by decide) (t := .byte) (t' := (.array .byte)) (by decide) (by decide))))
 have ne21 : ra0 ≠ o10 := (own_ne_lo (Nat.lt_of_lt_of_le A'.lt (Nat.le_of_eq W6.size.symm)) f12)
 have F22 := (f13.other W19 (Ne.symm ne21))
 have KEEP := ((((Keep.refl h0 [ra0]).wr W6 (Or.inl (List.mem_of_getElem? (i := 0) rfl))).trans K9 all0).wr W19 (Or.inl (List.mem_of_getElem? (i := 0) rfl)))
 exact own_leaveN X19 hlk (v := none) (fun _ => rfl) (lb rfl) (lb rfl) (by rw [e19]; exact ⟨o10, kc11, rfl, N19, KEEP, z15, F20, Fw19, F22⟩) (fun fs hr => X19.returnOut hx hret (hb hby d38_97) hr)
abbrev R37_33 : Room := { frames := 4, cells := 1, slots := 19, locals := 65 }
def Q37_33 (Z : State) (ra0 ra1 ra2 : Addr) (kc3 : ClassId) (cs4 : List Int32) (G1 : Int32) (h0 : Heap) (n0 : Nat) (v : Option Value) (h : Heap) (L : List Loc) : Prop := (∃ (o2 : Addr) (kc3 : ClassId), v = none ∧ Fr n0 L ∧ Keep h0 h [ra0] ∧ h0.size ≤ o2 ∧ Fld Z h ra0 cN6 "coder" "B" (.int 0) ∧ Fld Z h ra0 cN6 "value" "[B" (.ref o2) ∧ Arv Z h o2 kc3 .byte (19 : Int32) (own_by cs4) (.int 0))
theorem rm37_33 l Z a0 (hw : HW Z a0) ra0 ra1 ra2 kc3 (cs4 : List Int32) (G1 : Int32) h0 n0 (OLD : Old Z n0 h0) (A' : Exa Z h0 ra0 cN6) (B' : Fld Z h0 ra0 cN6 "coder" "B" (.int 0)) (C' : Fld Z h0 ra0 cN6 "value" "[B" .null) (D' : Exa Z h0 ra1 cN8) (E' : Fld Z h0 ra1 cN4 "coder" "B" (.int 0)) (F' : Fld Z h0 ra1 cN4 "count" "I" (.int 19)) (G' : Fld Z h0 ra1 cN4 "value" "[B" (.ref ra2)) (H' : cs4.length = 19) (I' : own_L cs4) (J' : Arv Z h0 ra2 kc3 .byte (34 : Int32) (own_by cs4) (.int 0)) (O2 : Sta Z Z.heap cN6 "COMPACT_STRINGS" "Z" (.int G1)) (P5 : ¬ (G1 = (0 : Int32))) (K' : n0 ≤ ra0) (ne_ra2_ra0 : ra2 ≠ ra0) :
  own_CN l Z y28 jdk_42_method_53_code 2 none [] R37_33 #[.ref ra0, .ref ra1] h0 (Q37_33 Z ra0 ra1 ra2 kc3 cs4 G1 h0 n0) := by
 refine own_entryN (plainFor_of_name pn_4) fun p e s m below meth c s₁ hx hby hml hown hnm hret hlk hZ hh X0 e0 => ?_
 have N0 := Fr.nil n0
 rw [ef_24_12 m ra0 ra1]
 refine og s₁ (mkF m 3 #[vR ra0, vR ra1] [.null, .ref ra1, .ref ra0]) (fun _ k => qa X0 hx hby d37_0 rfl rfl rfl (qa X0 hx hby d37_1 rfl rfl rfl (XS.aconstNull X0.here hx rfl (hb hby d37_2) k))) ?_
 obtain ⟨_, T1, L1, X1, hQ1, st1⟩ := own_sc X0 hx hZ rfl hown (ow hw 240) (ow hw 241) (rm38_34 l Z a0 hw ra0 ra1 ra2 kc3 cs4 G1 h0 n0 OLD A' B' C' D' E' F' G' H' I' J' O2 P5 K' ne_ra2_ra0) (ow hw 242) (ow hw 113) e0 (g := (mkF m 3 #[vR ra0, vR ra1] [.null, .ref ra1, .ref ra0])) rfl (zs hml) (argsL := [.ref ra1, .null]) (rest := []) (lenOf pd_20 rfl) rfl (hb hby d37_3) (W := 0) rfl
 obtain ⟨o2, kc3, rfl, Nq1, K1, f4, f5, f6, f7⟩ := hQ1
 have N1 := Fr.app N0 Nq1
 have g8 : n0 ≤ o2 := Nat.le_trans (own_osz OLD) f4
 have z9 : h0.size ≤ o2 := Nat.le_trans (Nat.le_refl _) f4
 refine ot T1 (mkF m 6 #[vR ra0, vR ra1] []) st1 ?_
 have KEEP := ((Keep.refl h0 [ra0]).trans K1 (allS (Or.inl (List.mem_of_getElem? (i := 0) rfl)) all0))
 exact own_leaveN X1 hlk (v := none) (fun _ => rfl) (lb rfl) (lb rfl) (by exact ⟨o2, kc3, rfl, N1, KEEP, z9, f5, f6, f7⟩) (fun fs hr => X1.returnOut hx hret (hb hby d37_6) hr)
abbrev R36_32 : Room := { frames := 5, cells := 2, slots := 23, locals := 79 }
def Q36_32 (Z : State) (ra0 ra1 : Addr) (kc2 : ClassId) (cs3 : List Int32) (G1 : Int32) (h0 : Heap) (n0 : Nat) (v : Option Value) (h : Heap) (L : List Loc) : Prop := (∃ (b1 o11 : Addr) (kc12 : ClassId), v = some (.ref b1) ∧ Fr n0 L ∧ Keep h0 h [] ∧ h0.size ≤ b1 ∧ h0.size ≤ o11 ∧ Exa Z h b1 cN6 ∧ Fld Z h b1 cN6 "coder" "B" (.int 0) ∧ Fld Z h b1 cN6 "value" "[B" (.ref o11) ∧ Arv Z h o11 kc12 .byte (19 : Int32) (own_by cs3) (.int 0))
theorem rm36_32 l Z a0 (hw : HW Z a0) ra0 ra1 kc2 (cs3 : List Int32) (G1 : Int32) h0 n0 (OLD : Old Z n0 h0) (A' : Exa Z h0 ra0 cN8) (B' : Fld Z h0 ra0 cN4 "coder" "B" (.int 0)) (C' : Fld Z h0 ra0 cN4 "count" "I" (.int 19)) (D' : Fld Z h0 ra0 cN4 "value" "[B" (.ref ra1)) (E' : cs3.length = 19) (F' : own_L cs3) (G' : Arv Z h0 ra1 kc2 .byte (34 : Int32) (own_by cs3) (.int 0)) (O2 : Sta Z Z.heap cN6 "COMPACT_STRINGS" "Z" (.int G1)) (P5 : ¬ (G1 = (0 : Int32))) :
  own_CN l Z y29 jdk_67_method_42_code 1 (some (.object cN6)) [] R36_32 #[.ref ra0] h0 (Q36_32 Z ra0 ra1 kc2 cs3 G1 h0 n0) := by
 refine own_entryN (plainFor_of_name pn_3) fun p e s m below meth c s₁ hx hby hml hown hnm hret hlk hZ hh X0 e0 => ?_
 have N0 := Fr.nil n0
 rw [ef_26_1 m ra0]
 obtain ⟨T1, h1, X1, e1, E1, A1, D1, U1, st1⟩ := newO X0 hx hZ hown (ow hw 235) (ow hw 120) (ow hw 113) e0 (g := (mkF m 0 #[vR ra0] [])) rfl (hb hby d36_0) (lb rfl) (lb rfl)
 obtain ⟨b1, gb1⟩ : ∃ z, z = h0.size := ⟨_, rfl⟩
 rw [← gb1] at A1 D1 U1 st1
 have g2 : n0 ≤ b1 := Nat.le_trans (own_osz OLD) (Nat.le_of_eq gb1.symm)
 have z3 : h0.size ≤ b1 := Nat.le_trans (Nat.le_refl _) (Nat.le_of_eq gb1.symm)
 refine og T1 (mkF m 5 #[vR ra0] [.ref ra0, .ref b1, .ref b1]) (fun _ k => st1 _ (XS.dup X1.here hx rfl (hb hby d36_3) rfl rfl (qa X1 hx hby d36_4 rfl rfl rfl k))) ?_
 have F4 := (A'.ext E1)
 have F5 := (B'.ext E1)
 have F6 := (C'.ext E1)
 have F7 := (D'.ext E1)
 have F8 := (G'.ext E1)
 have F9 := (OLD.ext E1)
 obtain ⟨_, T10, L10, X10, hQ10, st10⟩ := own_sc X1 hx hZ rfl hown (ow hw 236) (ow hw 237) (rm37_33 l Z a0 hw b1 ra0 ra1 kc2 cs3 G1 h1 n0 F9 A1 (D1 (Or.inr (ow hw 122)) (ty := .byte) (by decide)) (D1 (Or.inr (ow hw 121)) (ty := (.array .byte)) (by decide)) F4 F5 F6 F7 E' F' F8 O2 P5 g2 (own_ne_lo G'.lt (Nat.le_of_eq gb1.symm))) (ow hw 239) (ow hw 113) e1 (g := (mkF m 5 #[vR ra0] [.ref ra0, .ref b1, .ref b1])) rfl (zs hml) (argsL := [.ref ra0]) (rest := [.ref b1]) (lenOf pd_21 rfl) rfl (hb hby d36_5) (W := 1) rfl
 obtain ⟨o11, kc12, rfl, Nq10, K10, f13, f14, f15, f16⟩ := hQ10
 have N10 := Fr.app N0 Nq10
 have g17 : n0 ≤ o11 := Nat.le_trans (own_osz F9) f13
 have F19 := (Nat.le_trans (Nat.le_refl _) E1.1)
 have z18 : h0.size ≤ o11 := Nat.le_trans F19 f13
 refine ot T10 (mkF m 8 #[vR ra0] [.ref b1]) st10 ?_
 have F20 := (A1.keep K10)
 have KEEP := (((Keep.refl h0 []).ext E1).trans K10 (allS (Or.inr z3) all0))
 exact own_leaveN X10 hlk (v := some (.ref b1)) (own_nr hret) (lb rfl) (lb rfl) (by exact ⟨b1, o11, kc12, rfl, N10, KEEP, z3, z18, F20, f14, f15, f16⟩) (own_ra X10 hx hret rfl rfl rfl (hb hby d36_8))
abbrev R15_7 : Room := { frames := 6, cells := 9, slots := 157, locals := 91 }
def Q15_7 (Z : State) (ra0 ra1 ra2 : Addr) (ci3 : Int32) (em : Addr) (G1 : Int32) (dg : Addr) (kdg : ClassId) (h0 : Heap) (n0 : Nat) (v : Option Value) (h : Heap) (L : List Loc) : Prop := (∃ (o81 o82 : Addr) (kc83 : ClassId), v = some (.ref o81) ∧ Fr n0 L ∧ Keep h0 h [] ∧ h0.size ≤ o81 ∧ h0.size ≤ o82 ∧ Exa Z h o81 cN6 ∧ Fld Z h o81 cN6 "coder" "B" (.int 0) ∧ Fld Z h o81 cN6 "value" "[B" (.ref o82) ∧ Arv Z h o82 kc83 .byte (19 : Int32) (own_by ((cL0 ++ ([(48 + ci3)] : List Int32)) ++ cL1)) (.int 0))
theorem rm15_7 l Z a0 (hw : HW Z a0) ra0 ra1 ra2 (ci3 : Int32) em (G1 : Int32) dg kdg h0 n0 (OLD : Old Z n0 h0) (A' : Exa Z h0 ra0 cN0) (B' : Fld Z h0 ra0 cN0 "steps" "Ljava/util/List;" (.ref ra1)) (EM0 : Exa Z Z.heap em cN1) (SM0 : Sta Z Z.heap cN7 "EMPTY" "Ljava/lang/Object;" (.ref em)) (Q_ra1 : own_lst Z em h0 ra1 ra2 ci3) (hk5 : ¬ (ci3 < (0 : Int32))) (hk6 : (-10 : Int32) < (-ci3)) (hk7 : (-100 : Int32) < (-ci3)) (hk8 : ¬ ((-ci3) < (-9 : Int32))) (O2 : Sta Z Z.heap cN6 "COMPACT_STRINGS" "Z" (.int G1)) (P5 : ¬ (G1 = (0 : Int32))) (lt_ra1 : ra1 < h0.size) (lt_ra2 : ra2 < h0.size) (SG0 : Sta Z Z.heap "java/lang/Integer" "DigitOnes" "[B" (.ref dg)) (VG0 : Arv Z Z.heap dg kdg .byte (100 : Int32) own_dig (.int 0)) :
  own_CW l Z false y30 prog_29_method_6_code 1 (some (.object cN6)) [] R15_7 #[.ref ra0] h0 [] (Q15_7 Z ra0 ra1 ra2 ci3 em G1 dg kdg h0 n0) := by
 refine own_entryW (plainFor_of_name pn_8) fun p e s m below meth c s₁ hx hby hml hown hnm hret hlk hZ hh hCH hSf hKn X0 e0 => ?_
 have N0 := Fr.nil n0
 have hS0 : s.Since s.vm h0.size := own_since s _
 have hk0 : h0.size ≤ h0.size := Nat.le_refl _
 have CH0 : CHr Z own_EL s.vm h0 s.vm h0 := CHr.refl hCH
 rw [ef_26_1 m ra0]
 obtain ⟨T1, h1, X1, e1, E1, A1, D1, U1, st1⟩ := newO X0 hx hZ hown (ow hw 99) (ow hw 100) (ow hw 101) e0 (g := (mkF m 0 #[vR ra0] [])) rfl (hb hby d15_0) (lb rfl) (lb rfl)
 obtain ⟨b1, gb1⟩ : ∃ z, z = h0.size := ⟨_, rfl⟩
 rw [← gb1] at A1 D1 U1 st1
 have g2 : n0 ≤ b1 := Nat.le_trans (own_osz OLD) (Nat.le_of_eq gb1.symm)
 have z3 : h0.size ≤ b1 := Nat.le_trans (Nat.le_refl _) (Nat.le_of_eq gb1.symm)
 have ch4 := CHr.ext E1 CH0.1
 have CH5 := CHr.trans CH0 ch4
 refine og T1 (mkF m 4 #[vR ra0] [.ref b1, .ref b1]) (fun _ k => st1 _ (XS.dup X1.here hx rfl (hb hby d15_3) rfl rfl k)) ?_
 have F6 := (OLD.ext E1)
 obtain ⟨_, T7, L7, X7, hQ7, st7⟩ := own_sc X1 hx hZ rfl hown (ow hw 102) (ow hw 103) (rm16_5 l Z a0 hw b1 G1 h1 n0 F6 A1 (D1 (Or.inl (ow hw 118)) (ty := .byte) (by decide)) (D1 (Or.inl (ow hw 149)) (ty := .int) (by decide)) (D1 (Or.inl (ow hw 116)) (ty := (.array .byte)) (by decide)) O2 P5 g2) (ow hw 104) (ow hw 101) e1 (g := (mkF m 4 #[vR ra0] [.ref b1, .ref b1])) rfl (zs hml) (argsL := []) (rest := [.ref b1]) (lenOf pd_1 rfl) rfl (hb hby d15_4) (W := 1) rfl
 obtain ⟨o8, kc9, rfl, Nq7, K7, f10, f11, f12, f13, f14⟩ := hQ7
 have N7 := Fr.app N0 Nq7
 have g15 : n0 ≤ o8 := Nat.le_trans (own_osz F6) f10
 have F17 := (Nat.le_trans (Nat.le_refl _) E1.1)
 have z16 : h0.size ≤ o8 := Nat.le_trans F17 f10
 have ch18 := CHr.keep K7 (allS (Safe.exa hZ.alike A1 (by decide) (by decide)) all0) CH5.1
 have CH19 := CHr.trans CH5 ch18
 have sf20 := Safe.keep K7 (allS (Safe.exa hZ.alike A1 (by decide) (by decide)) all0) CH5.1 (Safe.new f10)
 refine ot T7 (mkF m 7 #[vR ra0] [.ref b1]) st7 ?_
 have F22 := (Nat.le_trans (Nat.le_trans hk0 E1.1) K7.1)
 have F23 := (Nat.le_trans F17 K7.1)
 obtain ⟨l21, T21, h21, k21, lb21, lk21, X21, e21, E21, hS21, hk21, hZ21, hown21, Ex21, Fc21, Fv21, Av21, la21, lz21, ch21, Lt21, sf21, st21⟩ := ldcCH X7 hx hZ hown (ow hw 119) (own_wS hw) rfl hS0 F22 (own_EW hw) (by decide) CH19.1 (vs := [.int 103, .int 114, .int 111, .int 117, .int 112, .int 32, .int 111, .int 102, .int 32]) (z := (9 : Int32)) (by decide) (by decide) (by decide) (g := (mkF m 7 #[vR ra0] [.ref b1])) rfl (hb hby d15_7) (n := 36) (by decide) (by decide) (lb rfl) (lb rfl)
 have CH24 := CHr.trans CH19 ch21
 have Ay21 : Arv Z h21 lb21 lk21 .byte (9 : Int32) (own_by cL0) (.int 0) := Av21
 refine og T21 (mkF m 9 #[vR ra0] [.ref l21, .ref b1]) st21 ?_
 have F25 := ((A1.keep K7).ext E21)
 have F26 := (f11.ext E21)
 have F27 := (f12.ext E21)
 have F28 := (f13.ext E21)
 have F29 := (f14.ext E21)
 have hp30 : own_L cL0 := own_hpl _ rfl
 have F31 := ((F6.keep K7 (allS g2 all0)).ext E21)
 obtain ⟨_, T32, L32, X32, hQ32, st32⟩ := own_vc X21 hx hZ21 hown21 (ow hw 125) (ow hw 126) (ow hw 128) (ow hw 127) F25 (rm18_8 l Z a0 hw b1 o8 kc9 l21 lb21 lk21 cL0 G1 h21 n0 F31 F25 F26 F27 F28 F29 Ex21 Fc21 Fv21 rfl hp30 Ay21 O2 P5 g15 (own_ne_lo A1.lt f10) g2) (ow hw 129) (ow hw 101) e21 (g := (mkF m 9 #[vR ra0] [.ref l21, .ref b1])) rfl (zs hml) (argsL := [.ref l21]) (rest := []) (lenOf pd_7 rfl) rfl (hb hby d15_9) (W := 0) rfl
 obtain ⟨rfl, Nq32, K32, f33, f34, f35, f36⟩ := hQ32
 have N32 := Fr.app N7 Nq32
 have ch37 := CHr.keep K32 (allS (CHr.safe ch21 f14.lt sf20) (allS (Safe.exa hZ21.alike F25 (by decide) (by decide)) all0)) CH24.1
 have CH38 := CHr.trans CH24 ch37
 refine og T32 (mkF m 13 #[vR ra0] [.ref ra0, .ref b1]) (fun _ k => st32.trans (qa X32 hx hby d15_12 rfl rfl rfl k)) ?_
 have F39 := ((((B'.ext E1).keep K7 (ninS (own_ne_lo A'.lt (Nat.le_of_eq gb1.symm)) nin0)).ext E21).keep K32 (ninS (own_ne_lo (Nat.lt_of_lt_of_le A'.lt E1.1) f10) (ninS (own_ne_lo A'.lt (Nat.le_of_eq gb1.symm)) nin0)))
 obtain ⟨T40, X40, e40, st40⟩ := qf X32 hx hZ21 hown21 (ow hw 63) rfl F39 (g := (mkF m 13 #[vR ra0] [.ref ra0, .ref b1])) rfl rfl hby d15_13
 refine og T40 (mkF m 16 #[vR ra0] [.ref ra1, .ref b1]) st40 ?_
 have F41 := (F31.keep K32 (allS g15 (allS g2 all0)))
 have F43 := ((((Q_ra1.ext E1).keep K7 (ninS (own_ne_lo lt_ra1 (Nat.le_of_eq gb1.symm)) nin0) (ninS (own_ne_lo lt_ra2 (Nat.le_of_eq gb1.symm)) nin0)).ext E21).keep K32 (ninS (own_ne_lo (Nat.lt_of_lt_of_le lt_ra1 E1.1) f10) (ninS (own_ne_lo lt_ra1 (Nat.le_of_eq gb1.symm)) nin0)) (ninS (own_ne_lo (Nat.lt_of_lt_of_le lt_ra2 E1.1) f10) (ninS (own_ne_lo lt_ra2 (Nat.le_of_eq gb1.symm)) nin0)))
 obtain ⟨T42, L42, X42, Nq42, e42, st42⟩ := own_lsz X40 hx hZ21 hw hown21 (ow hw 175) F41 SM0 EM0 e40 F43 (g := (mkF m 16 #[vR ra0] [.ref ra1, .ref b1])) rfl (zs hml) (rest := [.ref b1]) rfl (hb hby d15_16) (W := 1) (lb rfl) (lb rfl) (lb rfl) (lb rfl) (lb rfl)
 have N42 := Fr.app N32 Nq42
 refine ot T42 (mkF m 21 #[vR ra0] [.int ci3, .ref b1]) st42 ?_
 have F44 := (F25.keep K32)
 obtain ⟨_, T45, L45, X45, hQ45, st45⟩ := own_vc X42 hx hZ21 hown21 (ow hw 187) (ow hw 188) (ow hw 190) (ow hw 189) F44 (rm27_15 l Z a0 hw b1 o8 kc9 cL0 ci3 G1 dg kdg T32.heap n0 F41 F44 f34 f35 f36 rfl hp30 f33 hk5 hk6 hk7 hk8 O2 P5 SG0 VG0 g15 (own_ne_lo A1.lt f10) g2) (ow hw 191) (ow hw 101) e42 (g := (mkF m 21 #[vR ra0] [.int ci3, .ref b1])) rfl (zs hml) (argsL := [.int ci3]) (rest := []) (lenOf pd_12 rfl) rfl (hb hby d15_21) (W := 0) rfl
 obtain ⟨rfl, Nq45, K45, f46, f47, f48, f49⟩ := hQ45
 have N45 := Fr.app N42 Nq45
 have ch50 := CHr.keep K45 (allS (CHr.safe ch37 (Nat.lt_of_lt_of_le f14.lt E21.1) (CHr.safe ch21 f14.lt sf20)) (allS (Safe.exa hZ21.alike F44 (by decide) (by decide)) all0)) CH38.1
 have CH51 := CHr.trans CH38 ch50
 refine ot T45 (mkF m 24 #[vR ra0] [.ref b1]) st45 ?_
 have F53 := (Nat.le_trans (Nat.le_trans hk21 K32.1) K45.1)
 have F54 := (Nat.le_trans (Nat.le_trans (Nat.le_trans F23 E21.1) K32.1) K45.1)
 obtain ⟨l52, T52, h52, k52, lb52, lk52, X52, e52, E52, hS52, hk52, hZ52, hown52, Ex52, Fc52, Fv52, Av52, la52, lz52, ch52, Lt52, sf52, st52⟩ := ldcCH X45 hx hZ21 hown21 (ow hw 209) (own_wS hw) rfl hS21 F53 (own_EW hw) (by decide) CH51.1 (vs := [.int 32, .int 99, .int 111, .int 109, .int 109, .int 97, .int 110, .int 100, .int 115]) (z := (9 : Int32)) (by decide) (by decide) (by decide) (g := (mkF m 24 #[vR ra0] [.ref b1])) rfl (hb hby d15_24) (n := 36) (by decide) (by decide) (lb rfl) (lb rfl)
 have CH55 := CHr.trans CH51 ch52
 have Ay52 : Arv Z h52 lb52 lk52 .byte (9 : Int32) (own_by cL1) (.int 0) := Av52
 refine og T52 (mkF m 26 #[vR ra0] [.ref l52, .ref b1]) st52 ?_
 have F56 := ((F44.keep K45).ext E52)
 have F57 := (f47.ext E52)
 have F58 := (f48.ext E52)
 have F59 := (f49.ext E52)
 have hp60 : ∀ c ∈ ([(48 + ci3)] : List Int32), ¬ c < 0 ∧ ¬ (255 : Int32) < c := by
  intro c hc
  simp only [List.mem_cons, List.not_mem_nil, or_false] at hc
  rcases hc with rfl
  ·
   exact (own_48 hk5 hk8)
 have F61 := (f46.ext E52)
 have hp62 : own_L cL1 := own_hpl _ rfl
 have F63 := ((F41.keep K45 (allS g15 (allS g2 all0))).ext E52)
 obtain ⟨_, T64, L64, X64, hQ64, st64⟩ := own_vc X52 hx hZ52 hown52 (ow hw 125) (ow hw 126) (ow hw 128) (ow hw 127) F56 (rm18_21 l Z a0 hw b1 o8 kc9 ((cL0 ++ ([(48 + ci3)] : List Int32))) l52 lb52 lk52 cL1 G1 h52 n0 F63 F56 F57 F58 F59 (own_la rfl rfl) (own_happ hp30 hp60) F61 Ex52 Fc52 Fv52 rfl hp62 Ay52 O2 P5 g2 (ne_exa Ex52 F56 (by decide)) (Ne.symm (own_ne_arv F56 (ow hw 100) Ay52))) (ow hw 129) (ow hw 101) e52 (g := (mkF m 26 #[vR ra0] [.ref l52, .ref b1])) rfl (zs hml) (argsL := [.ref l52]) (rest := []) (lenOf pd_7 rfl) rfl (hb hby d15_26) (W := 0) rfl
 obtain ⟨o65, kc66, rfl, Nq64, K64, f67, f68, f69, f70, f71⟩ := hQ64
 have N64 := Fr.app N45 Nq64
 have g72 : n0 ≤ o65 := Nat.le_trans (own_osz F63) f67
 have F74 := (Nat.le_trans F54 E52.1)
 have z73 : h0.size ≤ o65 := Nat.le_trans F74 f67
 have ch75 := CHr.keep K64 (allS (Safe.exa hZ52.alike F56 (by decide) (by decide)) all0) CH55.1
 have CH76 := CHr.trans CH55 ch75
 have sf77 := Safe.keep K64 (allS (Safe.exa hZ52.alike F56 (by decide) (by decide)) all0) CH55.1 (Safe.new f67)
 refine ot T64 (mkF m 29 #[vR ra0] [.ref b1]) st64 ?_
 have F78 := (F56.keep K64)
 have F79 := (F63.keep K64 (allS g2 all0))
 obtain ⟨_, T80, L80, X80, hQ80, st80⟩ := own_vc X64 hx hZ52 hown52 (ow hw 230) (ow hw 231) (ow hw 233) (ow hw 232) F78 (rm36_32 l Z a0 hw b1 o65 kc66 (((cL0 ++ ([(48 + ci3)] : List Int32)) ++ cL1)) G1 T64.heap n0 F79 F78 f68 f69 f70 (own_la (own_la rfl rfl) rfl) (own_happ (own_happ hp30 hp60) hp62) f71 O2 P5) (ow hw 234) (ow hw 101) rfl (g := (mkF m 29 #[vR ra0] [.ref b1])) rfl (zs hml) (argsL := []) (rest := []) (lenOf pd_22 rfl) rfl (hb hby d15_29) (W := 0) rfl
 obtain ⟨o81, o82, kc83, rfl, Nq80, K80, f84, f85, f86, f87, f88, f89⟩ := hQ80
 have N80 := Fr.app N64 Nq80
 have g90 : n0 ≤ o81 := Nat.le_trans (own_osz F79) f84
 have F92 := (Nat.le_trans F74 K64.1)
 have z91 : h0.size ≤ o81 := Nat.le_trans F92 f84
 have g93 : n0 ≤ o82 := Nat.le_trans (own_osz F79) f85
 have z94 : h0.size ≤ o82 := Nat.le_trans F92 f85
 have ch95 := CHr.keep K80 all0 CH76.1
 have CH96 := CHr.trans CH76 ch95
 have sf97 := Safe.keep K80 all0 CH76.1 (Safe.new f84)
 have sf98 := Safe.keep K80 all0 CH76.1 (Safe.new f85)
 refine ot T80 (mkF m 32 #[vR ra0] [.ref o81]) st80 ?_
 have K100 := (((((Keep.refl h0 []).ext E1).trans K7 (allS (Or.inr z3) all0)).ext E21).trans K32 (allS (Or.inr z16) (allS (Or.inr z3) all0)))
 have K101 := ((((K100.trans K45 (allS (Or.inr z16) (allS (Or.inr z3) all0))).ext E52).trans K64 (allS (Or.inr z3) all0)).trans K80 all0)
 have KEEP := K101
 have F99 := (Nat.le_trans (Nat.le_trans hk52 K64.1) K80.1)
 exact own_leaveW (s := s) (vm0 := T52.vm) X80 hS52 F99 hZ52 (own_EW hw) rfl CH96 hh hlk (v := some (.ref o81)) (own_nr hret) (lb rfl) (lb rfl) (by exact ⟨o81, o82, kc83, rfl, N80, KEEP, z91, z94, f86, f87, f88, f89⟩) (own_ra X80 hx hret rfl rfl rfl (hb hby d15_32))
abbrev R3_45 : Room := { frames := 1, cells := 0, slots := 0, locals := 12 }
def Q3_45 (Z : State) (ra0 : Addr) (h0 : Heap) (n0 : Nat) (v : Option Value) (h : Heap) (L : List Loc) : Prop := (v = none ∧ Fr n0 L ∧ h = h0)
theorem rm3_45 l Z a0 (hw : HW Z a0) ra0 h0 n0 (OLD : Old Z n0 h0) (U_ra0 : Unt h0 ra0) (A' : Exa Z h0 ra0 cN2) (B' : Fld Z h0 ra0 cN2 "elementData" "[Ljava/lang/Object;" .null) (C' : Fld Z h0 ra0 cN5 "modCount" "I" (.int 0)) (D' : Fld Z h0 ra0 cN2 "size" "I" (.int 0)) :
  own_CN l Z y33 jdk_22_method_1_code 1 none [] R3_45 #[.ref ra0] h0 (Q3_45 Z ra0 h0 n0) := by
 refine own_entryN (plainFor_of_name pn_9) fun p e s m below meth c s₁ hx hby hml hown hnm hret hlk hZ hh X0 e0 => ?_
 have N0 := Fr.nil n0
 rw [ef_26_1 m ra0]
 refine og s₁ (mkF m 1 #[vR ra0] [.ref ra0]) (fun _ k => qa X0 hx hby d3_0 rfl rfl rfl k) ?_
 obtain ⟨T1, X1, e1, st1⟩ := initO X0 hx hZ hown (ow hw 22) (ow hw 23) (ow hw 24) e0 (g := (mkF m 1 #[vR ra0] [.ref ra0])) rfl (zs hml) rfl (hb hby d3_1) (by decide) (W := 0) (lb rfl) (by decide)
 refine og T1 (mkF m 4 #[vR ra0] []) st1 ?_
 exact own_leaveN X1 hlk (v := none) (fun _ => rfl) (lb rfl) (lb rfl) (by rw [e1]; exact ⟨rfl, N0, rfl⟩) (fun fs hr => X1.returnOut hx hret (hb hby d3_4) hr)
abbrev R2_44 : Room := { frames := 2, cells := 0, slots := 0, locals := 24 }
def Q2_44 (Z : State) (ra0 : Addr) (h0 : Heap) (n0 : Nat) (v : Option Value) (h : Heap) (L : List Loc) : Prop := (v = none ∧ Fr n0 L ∧ Keep h0 h [ra0] ∧ Unt h ra0 ∧ Fld Z h ra0 cN2 "elementData" "[Ljava/lang/Object;" .null ∧ Fld Z h ra0 cN5 "modCount" "I" (.int 0) ∧ Fld Z h ra0 cN2 "size" "I" (.int 0))
theorem rm2_44 l Z a0 (hw : HW Z a0) ra0 h0 n0 (OLD : Old Z n0 h0) (U_ra0 : Unt h0 ra0) (A' : Exa Z h0 ra0 cN2) (B' : Fld Z h0 ra0 cN2 "elementData" "[Ljava/lang/Object;" .null) (C' : Fld Z h0 ra0 cN5 "modCount" "I" (.int 0)) (D' : Fld Z h0 ra0 cN2 "size" "I" (.int 0)) (E' : n0 ≤ ra0) :
  own_CN l Z y34 jdk_39_method_1_code 1 none [] R2_44 #[.ref ra0] h0 (Q2_44 Z ra0 h0 n0) := by
 refine own_entryN (plainFor_of_name pn_10) fun p e s m below meth c s₁ hx hby hml hown hnm hret hlk hZ hh X0 e0 => ?_
 have N0 := Fr.nil n0
 rw [ef_26_1 m ra0]
 refine og s₁ (mkF m 1 #[vR ra0] [.ref ra0]) (fun _ k => qa X0 hx hby d2_0 rfl rfl rfl k) ?_
 obtain ⟨_, T1, L1, X1, hQ1, st1⟩ := own_sc X0 hx hZ rfl hown (ow hw 16) (ow hw 17) (rm3_45 l Z a0 hw ra0 h0 n0 OLD U_ra0 A' B' C' D') (ow hw 21) (ow hw 20) e0 (g := (mkF m 1 #[vR ra0] [.ref ra0])) rfl (zs hml) (argsL := []) (rest := []) (lenOf pd_1 rfl) rfl (hb hby d2_1) (W := 0) rfl
 obtain ⟨rfl, Nq1, eq1⟩ := hQ1
 have N1 := Fr.app N0 Nq1
 refine og T1 (mkF m 6 #[vR ra0] [.int 0, .ref ra0]) (fun _ k => st1.trans (qa X1 hx hby d2_4 rfl rfl rfl (qc X1 hx hby d2_5 rfl k))) ?_
 obtain ⟨T2, h2, X2, e2, W2, st2⟩ := putF X1 hx hZ hown (host := "") (Or.inl (ow hw 25)) Via.refl eq1 C' A' (Or.inl (ow hw 26)) (ow hw 5) (ty := .int) (by decide) rfl rfl (g := (mkF m 6 #[vR ra0] [.int 0, .ref ra0])) rfl rfl (hb hby d2_6)
 have Fw2 := C'.same W2
 have N2 := Fr.snoc X2 N1 E'
 refine og T2 (mkF m 9 #[vR ra0] []) st2 ?_
 have F3 := (U_ra0.wr W2)
 have F4 := (B'.other W2 (Or.inr (slot_ne (Or.inl (ow hw 29)) (Or.inl (ow hw 26)) (by decide) (t := (.array (.object cN1))) (t' := .int) (by decide) (by decide))))
 have F5 := (D'.other W2 (Or.inr (slot_ne (Or.inl (ow hw 58)) (Or.inl (ow hw 26)) (by decide) (t := .int) (t' := .int) (by decide) (by decide))))
 have KEEP := ((Keep.refl h0 [ra0]).wr W2 (Or.inl (List.mem_of_getElem? (i := 0) rfl)))
 exact own_leaveN X2 hlk (v := none) (fun _ => rfl) (lb rfl) (lb rfl) (by rw [e2]; exact ⟨rfl, N2, KEEP, F3, F4, Fw2, F5⟩) (fun fs hr => X2.returnOut hx hret (hb hby d2_9) hr)
abbrev R1_43 : Room := { frames := 3, cells := 0, slots := 0, locals := 36 }
def Q1_43 (Z : State) (ra0 da : Addr) (kda : ClassId) (h0 : Heap) (n0 : Nat) (v : Option Value) (h : Heap) (L : List Loc) : Prop := (v = none ∧ Fr n0 L ∧ Keep h0 h [ra0] ∧ Unt h ra0 ∧ Fld Z h ra0 cN2 "elementData" "[Ljava/lang/Object;" (.ref da) ∧ Fld Z h ra0 cN5 "modCount" "I" (.int 0) ∧ Fld Z h ra0 cN2 "size" "I" (.int 0))
theorem rm1_43 l Z a0 (hw : HW Z a0) ra0 da kda h0 n0 (OLD : Old Z n0 h0) (U_ra0 : Unt h0 ra0) (A' : Exa Z h0 ra0 cN2) (B' : Fld Z h0 ra0 cN2 "elementData" "[Ljava/lang/Object;" .null) (C' : Fld Z h0 ra0 cN5 "modCount" "I" (.int 0)) (D' : Fld Z h0 ra0 cN2 "size" "I" (.int 0)) (E' : n0 ≤ ra0) (SD0 : Sta Z Z.heap cN2 "DEFAULTCAPACITY_EMPTY_ELEMENTDATA" "[Ljava/lang/Object;" (.ref da)) (VD0 : Arv Z Z.heap da kda (.object cN1) (0 : Int32) [] .null) :
  own_CN l Z y35 jdk_38_method_2_code 1 none [] R1_43 #[.ref ra0] h0 (Q1_43 Z ra0 da kda h0 n0) := by
 refine own_entryN (plainFor_of_name pn_11) fun p e s m below meth c s₁ hx hby hml hown hnm hret hlk hZ hh X0 e0 => ?_
 have N0 := Fr.nil n0
 rw [ef_26_1 m ra0]
 refine og s₁ (mkF m 1 #[vR ra0] [.ref ra0]) (fun _ k => qa X0 hx hby d1_0 rfl rfl rfl k) ?_
 obtain ⟨_, T1, L1, X1, hQ1, st1⟩ := own_sc X0 hx hZ rfl hown (ow hw 10) (ow hw 11) (rm2_44 l Z a0 hw ra0 h0 n0 OLD U_ra0 A' B' C' D' E') (ow hw 15) (ow hw 14) e0 (g := (mkF m 1 #[vR ra0] [.ref ra0])) rfl (zs hml) (argsL := []) (rest := []) (lenOf pd_1 rfl) rfl (hb hby d1_1) (W := 0) rfl
 obtain ⟨rfl, Nq1, K1, f2, f3, f4, f5⟩ := hQ1
 have N1 := Fr.app N0 Nq1
 refine og T1 (mkF m 5 #[vR ra0] [.ref ra0]) (fun _ k => st1.trans (qa X1 hx hby d1_4 rfl rfl rfl k)) ?_
 have F6 := (OLD.keep K1 (allS E' all0))
 obtain ⟨T7, X7, e7, st7⟩ := getS2 X1 hx hZ hown (host := "") (Or.inl (ow hw 27)) Via.refl rfl (SD0.ext F6.2) (g := (mkF m 5 #[vR ra0] [.ref ra0])) rfl (hb hby d1_5)
 refine og T7 (mkF m 8 #[vR ra0] [.ref da, .ref ra0]) st7 ?_
 have F8 := (A'.keep K1)
 obtain ⟨T9, h9, X9, e9, W9, st9⟩ := putF X7 hx hZ hown (host := "") (Or.inl (ow hw 28)) Via.refl e7 f3 F8 (Or.inl (ow hw 29)) (ow hw 5) (ty := (.array (.object cN1))) (by decide) rfl rfl (g := (mkF m 8 #[vR ra0] [.ref da, .ref ra0])) rfl rfl (hb hby d1_8)
 have Fw9 := f3.same W9
 have N9 := Fr.snoc X9 N1 E'
 refine og T9 (mkF m 11 #[vR ra0] []) st9 ?_
 have F10 := (f2.wr W9)
 have F11 := (f4.other W9 (Or.inr (slot_ne (Or.inl (ow hw 26)) (Or.inl (ow hw 29)) (by decide) (t := .int) (t' := (.array (.object cN1))) (by decide) (by decide))))
 have F12 := (f5.other W9 (Or.inr (slot_ne (Or.inl (ow hw 58)) (Or.inl (ow hw 29)) (by decide) (t := .int) (t' := (.array (.object cN1))) (by decide) (by decide))))
 have KEEP := (((Keep.refl h0 [ra0]).trans K1 (allS (Or.inl (List.mem_of_getElem? (i := 0) rfl)) all0)).wr W9 (Or.inl (List.mem_of_getElem? (i := 0) rfl)))
 exact own_leaveN X9 hlk (v := none) (fun _ => rfl) (lb rfl) (lb rfl) (by rw [e9]; exact ⟨rfl, N9, KEEP, F10, Fw9, F11, F12⟩) (fun fs hr => X9.returnOut hx hret (hb hby d1_11) hr)
abbrev R8_49 : Room := { frames := 0, cells := 0, slots := 0, locals := 0 }
def Q8_49 (Z : State) (ra0 : Addr) (w1 : Int32) (h0 : Heap) (n0 : Nat) (v : Option Value) (h : Heap) (L : List Loc) : Prop := (w1 = (0 : Int32) ∧ v = some (.int 1) ∧ Fr n0 L ∧ h = h0) ∨ ((¬ (w1 = (0 : Int32))) ∧ v = some (.int 0) ∧ Fr n0 L ∧ h = h0)
theorem rm8_49 l Z a0 (hw : HW Z a0) ra0 (w1 : Int32) h0 n0 (OLD : Old Z n0 h0) (A' : Fld Z h0 ra0 cN2 "size" "I" (.int w1)) :
  own_CN l Z y36 jdk_38_method_9_code 1 (some .boolean) [] R8_49 #[.ref ra0] h0 (Q8_49 Z ra0 w1 h0 n0) := by
 refine own_entryN (plainFor_of_name pn_11) fun p e s m below meth c s₁ hx hby hml hown hnm hret hlk hZ hh X0 e0 => ?_
 have N0 := Fr.nil n0
 rw [ef_26_1 m ra0]
 refine og s₁ (mkF m 1 #[vR ra0] [.ref ra0]) (fun _ k => qa X0 hx hby d8_0 rfl rfl rfl k) ?_
 obtain ⟨T2, X2, e2, st2⟩ := qf X0 hx hZ hown (ow hw 57) e0 A' (g := (mkF m 1 #[vR ra0] [.ref ra0])) rfl rfl hby d8_1
 refine og T2 (mkF m 4 #[vR ra0] [.int w1]) st2 ?_
 by_cases hc3 : w1 = (0 : Int32)
 ·
  refine og T2 (mkF m 12 #[vR ra0] [.int 1]) (fun _ k => XS.ifNo X2.here hx rfl (hb hby d8_4) rfl ((if0 _ _).trans (teq hc3).2) (qc X2 hx hby d8_7 rfl (XS.goto X2.here hx rfl (pc0 := 8) (pc' := 12) rfl (hb hby d8_8) (by decide) (by decide) k))) ?_
  exact own_leaveN X2 hlk (v := some (.int (nar .boolean (1 : Int32)))) (own_nr hret) (lb rfl) (lb rfl) (by rw [e2]; exact (Or.inl ⟨hc3, rfl, N0, rfl⟩)) (fun fs hr => retN X2 hx (t := .boolean) hret (by simp) (hb hby d8_12) hr)
 ·
  refine og T2 (mkF m 12 #[vR ra0] [.int 0]) (fun _ k => XS.ifYes X2.here hx rfl (pc0 := 4) (pc' := 11) rfl (hb hby d8_4) rfl ((if0 _ _).trans (feq hc3).2) (by decide) (by decide) (qc X2 hx hby d8_11 rfl k)) ?_
  exact own_leaveN X2 hlk (v := some (.int (nar .boolean (0 : Int32)))) (own_nr hret) (lb rfl) (lb rfl) (by rw [e2]; exact (Or.inr ⟨hc3, rfl, N0, rfl⟩)) (fun fs hr => retN X2 hx (t := .boolean) hret (by simp) (hb hby d8_12) hr)
abbrev R9_50 : Room := { frames := 0, cells := 0, slots := 0, locals := 0 }
def Q9_50 (Z : State) (el ee : Addr) (kee : ClassId) (h0 : Heap) (n0 : Nat) (v : Option Value) (h : Heap) (L : List Loc) : Prop := (v = some (.ref el) ∧ Fr n0 L ∧ h = h0)
theorem rm9_50 l Z a0 (hw : HW Z a0) el ee kee h0 n0 (OLD : Old Z n0 h0) (SE0 : Sta Z Z.heap cN7 "EMPTY_LIST" "Ljava/util/ImmutableCollections$ListN;" (.ref el)) (EE0 : Exa Z Z.heap el cN3) (FE0 : Fld Z Z.heap el cN3 "elements" "[Ljava/lang/Object;" (.ref ee)) (VE0 : Arv Z Z.heap ee kee (.object cN1) (0 : Int32) [] .null) :
  own_CN l Z y38 jdk_40_method_36_code 0 (some (.object "java/util/List")) [] R9_50 #[] h0 (Q9_50 Z el ee kee h0 n0) := by
 refine own_entryN (plainFor_of_name pn_12) fun p e s m below meth c s₁ hx hby hml hown hnm hret hlk hZ hh X0 e0 => ?_
 have N0 := Fr.nil n0
 rw [ef_9_50 m ]
 obtain ⟨T1, X1, e1, st1⟩ := getS2 X0 hx hZ hown (host := "") (Or.inl (ow hw 62)) Via.refl e0 (SE0.ext OLD.2) (g := (mkF m 0 #[] [])) rfl (hb hby d9_0)
 refine og T1 (mkF m 3 #[] [.ref el]) st1 ?_
 exact own_leaveN X1 hlk (v := some (.ref el)) (own_nr hret) (lb rfl) (lb rfl) (by rw [e1]; exact ⟨rfl, N0, rfl⟩) (own_ra X1 hx hret rfl rfl rfl (hb hby d9_3))
abbrev R7_48 : Room := { frames := 1, cells := 0, slots := 0, locals := 12 }
def Q7_48 (Z : State) (ra0 da : Addr) (kda : ClassId) (el ee : Addr) (kee : ClassId) (h0 : Heap) (n0 : Nat) (v : Option Value) (h : Heap) (L : List Loc) : Prop := ((0 : Int32) = (0 : Int32) ∧ v = some (.ref el) ∧ Fr n0 L ∧ h = h0)
theorem rm7_48 l Z a0 (hw : HW Z a0) ra0 da kda el ee kee h0 n0 (OLD : Old Z n0 h0) (VD0 : Arv Z Z.heap da kda (.object cN1) (0 : Int32) [] .null) (U_ra0 : Unt h0 ra0) (A' : Exa Z h0 ra0 cN2) (B' : Fld Z h0 ra0 cN2 "elementData" "[Ljava/lang/Object;" (.ref da)) (C' : Fld Z h0 ra0 cN5 "modCount" "I" (.int 0)) (D' : Fld Z h0 ra0 cN2 "size" "I" (.int 0)) (SE0 : Sta Z Z.heap cN7 "EMPTY_LIST" "Ljava/util/ImmutableCollections$ListN;" (.ref el)) (EE0 : Exa Z Z.heap el cN3) (FE0 : Fld Z Z.heap el cN3 "elements" "[Ljava/lang/Object;" (.ref ee)) (VE0 : Arv Z Z.heap ee kee (.object cN1) (0 : Int32) [] .null) :
  own_CN l Z y39 jdk_56_method_3_code 2 (some (.object "java/util/List")) [] R7_48 #[.ref ra0] h0 (Q7_48 Z ra0 da kda el ee kee h0 n0) := by
 refine own_entryN (plainFor_of_name pn_13) fun p e s m below meth c s₁ hx hby hml hown hnm hret hlk hZ hh X0 e0 => ?_
 have N0 := Fr.nil n0
 rw [ef_7_48 m ra0]
 refine og s₁ (mkF m 1 #[vR ra0, vU] [.ref ra0]) (fun _ k => qa X0 hx hby d7_0 rfl rfl rfl k) ?_
 obtain ⟨T1, X1, e1, st1⟩ := instNo X0 hx hZ hown (ow hw 42) e0 A' (own_nsn (ow hw 43) (ow hw 351) (NS.step (ow hw 43) (NS.step (ow hw 44) (NS.step (ow hw 45) (own_nsr (ow hw 46) (ow hw 351) (by decide)) (by decide)) (by decide)) (by decide)) (by decide)) (g := (mkF m 1 #[vR ra0, vU] [.ref ra0])) rfl rfl (hb hby d7_1)
 refine og T1 (mkF m 8 #[vR ra0, vU] [.ref ra0]) (fun _ k => st1 _ (XS.ifNo X1.here hx rfl (hb hby d7_4) rfl ((if0 _ _).trans (tq 0)) (qa X1 hx hby d7_7 rfl rfl rfl k))) ?_
 obtain ⟨T2, X2, e2, st2⟩ := instNo X1 hx hZ hown (ow hw 47) e1 A' (own_nsn (ow hw 43) (ow hw 328) (NS.step (ow hw 43) (NS.step (ow hw 44) (NS.step (ow hw 45) (own_nsr (ow hw 46) (ow hw 328) (by decide)) (by decide)) (by decide)) (by decide)) (by decide)) (g := (mkF m 8 #[vR ra0, vU] [.ref ra0])) rfl rfl (hb hby d7_8)
 refine og T2 (mkF m 32 #[vR ra0, vU] [.ref ra0]) (fun _ k => st2 _ (XS.ifYes X2.here hx rfl (pc0 := 11) (pc' := 31) rfl (hb hby d7_11) rfl ((if0 _ _).trans (teq (by decide : (0 : Int32) = (0 : Int32))).1) (by decide) (by decide) (qa X2 hx hby d7_31 rfl rfl rfl k))) ?_
 obtain ⟨cq4, kq4, q4a, q4b, q4c⟩ := isOf hZ e2 A'
 obtain ⟨_, _, ⟨T4, L4, k4, n4⟩, -, X4, ⟨Lc4, hQ4, l4, y4, z4⟩, st4⟩ := X2.interfaceBack hx (xi := y37) (y := y36) hown (mvT hZ (ow hw 48)) (mvT hZ (ow hw 49)) (mvT hZ (ow hw 50)) (mvT hZ (ow hw 51)) (mvT hZ (ow hw 52)) (mvT hZ (ow hw 53)) (mvT hZ (ow hw 54)) (mvT hZ (ow hw 55)) (by decide) (backOf (W := 0) (rm8_49 l Z a0 hw ra0 ((0 : Int32)) h0 n0 OLD D') hZ (ow hw 56) (ow hw 6) (lb rfl) (lb rfl)) q4a q4b q4c (g := (mkF m 32 #[vR ra0, vU] [.ref ra0])) rfl (zs hml) (Steps.refl _) (argsL := []) (rest := []) (lenOf pd_9 rfl) rfl (lb rfl) (hb hby d7_32) (fun _ _ => ⟨rfl, e2, (lb rfl), (lb rfl)⟩)
 dsimp only [Pt.U, Pt.locs, Pt.cells, Pt.slots] at X4 l4 y4 z4 st4 hQ4
 subst l4 y4 z4
 rcases hQ4 with hQ4 | hQ4
 ·
  obtain ⟨hc5, rfl, Nq4, eq4⟩ := hQ4
  have N4 := Fr.app N0 Nq4
  refine og T4 (mkF m 40 #[vR ra0, vU] []) (fun _ k => st4.trans (XS.ifNo X4.here hx rfl (hb hby d7_37) rfl ((if0 _ _).trans (feq (by decide : ¬ ((1 : Int32) = (0 : Int32)))).1) k)) ?_
  obtain ⟨_, T6, L6, X6, hQ6, st6⟩ := own_tc X4 hx hZ hown (ow hw 59) (ow hw 60) (rm9_50 l Z a0 hw el ee kee h0 n0 OLD SE0 EE0 FE0 VE0) (ow hw 61) (ow hw 36) eq4 (g := (mkF m 40 #[vR ra0, vU] [])) rfl (zs hml) (argsL := []) (rest := []) (lenOf pd_25 rfl) rfl (hb hby d7_40) (W := 0) rfl
  obtain ⟨rfl, Nq6, eq6⟩ := hQ6
  have N6 := Fr.app N4 Nq6
  refine ot T6 (mkF m 43 #[vR ra0, vU] [.ref el]) st6 ?_
  exact own_leaveN X6 hlk (v := some (.ref el)) (own_nr hret) (lb rfl) (lb rfl) (by rw [eq6]; exact ⟨hc5, rfl, N6, rfl⟩) (own_ra X6 hx hret rfl rfl rfl (hb hby d7_43))
 ·
  exfalso
  obtain ⟨hd0, -⟩ := hQ4
  exact absurd hd0 (fun q => q (by decide : (0 : Int32) = (0 : Int32)))
abbrev R6_47 : Room := { frames := 2, cells := 0, slots := 0, locals := 25 }
def Q6_47 (Z : State) (ra0 da : Addr) (kda : ClassId) (el ee : Addr) (kee : ClassId) (h0 : Heap) (n0 : Nat) (v : Option Value) (h : Heap) (L : List Loc) : Prop := ((0 : Int32) = (0 : Int32) ∧ v = some (.ref el) ∧ Fr n0 L ∧ h = h0)
theorem rm6_47 l Z a0 (hw : HW Z a0) ra0 da kda el ee kee h0 n0 (OLD : Old Z n0 h0) (VD0 : Arv Z Z.heap da kda (.object cN1) (0 : Int32) [] .null) (U_ra0 : Unt h0 ra0) (A' : Exa Z h0 ra0 cN2) (B' : Fld Z h0 ra0 cN2 "elementData" "[Ljava/lang/Object;" (.ref da)) (C' : Fld Z h0 ra0 cN5 "modCount" "I" (.int 0)) (D' : Fld Z h0 ra0 cN2 "size" "I" (.int 0)) (SE0 : Sta Z Z.heap cN7 "EMPTY_LIST" "Ljava/util/ImmutableCollections$ListN;" (.ref el)) (EE0 : Exa Z Z.heap el cN3) (FE0 : Fld Z Z.heap el cN3 "elements" "[Ljava/lang/Object;" (.ref ee)) (VE0 : Arv Z Z.heap ee kee (.object cN1) (0 : Int32) [] .null) :
  own_CN l Z y40 jdk_40_method_48_code 1 (some (.object "java/util/List")) [] R6_47 #[.ref ra0] h0 (Q6_47 Z ra0 da kda el ee kee h0 n0) := by
 refine own_entryN (plainFor_of_name pn_12) fun p e s m below meth c s₁ hx hby hml hown hnm hret hlk hZ hh X0 e0 => ?_
 have N0 := Fr.nil n0
 rw [ef_26_1 m ra0]
 refine og s₁ (mkF m 1 #[vR ra0] [.ref ra0]) (fun _ k => qa X0 hx hby d6_0 rfl rfl rfl k) ?_
 obtain ⟨_, T1, L1, X1, hQ1, st1⟩ := own_tc X0 hx hZ hown (ow hw 38) (ow hw 39) (rm7_48 l Z a0 hw ra0 da kda el ee kee h0 n0 OLD VD0 U_ra0 A' B' C' D' SE0 EE0 FE0 VE0) (ow hw 41) (ow hw 40) e0 (g := (mkF m 1 #[vR ra0] [.ref ra0])) rfl (zs hml) (argsL := [.ref ra0]) (rest := []) (lenOf pd_26 rfl) rfl (hb hby d6_1) (W := 0) rfl
 obtain ⟨hc2, rfl, Nq1, eq1⟩ := hQ1
 have N1 := Fr.app N0 Nq1
 refine ot T1 (mkF m 4 #[vR ra0] [.ref el]) st1 ?_
 exact own_leaveN X1 hlk (v := some (.ref el)) (own_nr hret) (lb rfl) (lb rfl) (by rw [eq1]; exact ⟨hc2, rfl, N1, rfl⟩) (own_ra X1 hx hret rfl rfl rfl (hb hby d6_4))
abbrev R5_46 : Room := { frames := 3, cells := 0, slots := 0, locals := 38 }
def Q5_46 (Z : State) (ra0 ra1 da : Addr) (kda : ClassId) (el ee : Addr) (kee : ClassId) (h0 : Heap) (n0 : Nat) (v : Option Value) (h : Heap) (L : List Loc) : Prop := ((0 : Int32) = (0 : Int32) ∧ v = none ∧ Fr n0 L ∧ Keep h0 h [ra0] ∧ Fld Z h ra0 cN0 "steps" "Ljava/util/List;" (.ref el))
theorem rm5_46 l Z a0 (hw : HW Z a0) ra0 ra1 da kda el ee kee h0 n0 (OLD : Old Z n0 h0) (VD0 : Arv Z Z.heap da kda (.object cN1) (0 : Int32) [] .null) (A' : Exa Z h0 ra0 cN0) (B' : Fld Z h0 ra0 cN0 "steps" "Ljava/util/List;" .null) (U_ra1 : Unt h0 ra1) (C' : Exa Z h0 ra1 cN2) (D' : Fld Z h0 ra1 cN2 "elementData" "[Ljava/lang/Object;" (.ref da)) (E' : Fld Z h0 ra1 cN5 "modCount" "I" (.int 0)) (F' : Fld Z h0 ra1 cN2 "size" "I" (.int 0)) (SE0 : Sta Z Z.heap cN7 "EMPTY_LIST" "Ljava/util/ImmutableCollections$ListN;" (.ref el)) (EE0 : Exa Z Z.heap el cN3) (FE0 : Fld Z Z.heap el cN3 "elements" "[Ljava/lang/Object;" (.ref ee)) (VE0 : Arv Z Z.heap ee kee (.object cN1) (0 : Int32) [] .null) (G' : n0 ≤ ra0) :
  own_CN l Z y41 prog_29_method_1_code 2 none [] R5_46 #[.ref ra0, .ref ra1] h0 (Q5_46 Z ra0 ra1 da kda el ee kee h0 n0) := by
 refine own_entryN (plainFor_of_name pn_8) fun p e s m below meth c s₁ hx hby hml hown hnm hret hlk hZ hh X0 e0 => ?_
 have N0 := Fr.nil n0
 rw [ef_24_12 m ra0 ra1]
 refine og s₁ (mkF m 1 #[vR ra0, vR ra1] [.ref ra0]) (fun _ k => qa X0 hx hby d5_0 rfl rfl rfl k) ?_
 obtain ⟨T1, X1, e1, st1⟩ := initO X0 hx hZ hown (ow hw 33) (ow hw 23) (ow hw 24) e0 (g := (mkF m 1 #[vR ra0, vR ra1] [.ref ra0])) rfl (zs hml) rfl (hb hby d5_1) (by decide) (W := 0) (lb rfl) (by decide)
 refine og T1 (mkF m 6 #[vR ra0, vR ra1] [.ref ra1, .ref ra0]) (fun _ k => st1 _ (qa X1 hx hby d5_4 rfl rfl rfl (qa X1 hx hby d5_5 rfl rfl rfl k))) ?_
 obtain ⟨_, T2, L2, X2, hQ2, st2⟩ := own_tc X1 hx hZ hown (ow hw 34) (ow hw 35) (rm6_47 l Z a0 hw ra1 da kda el ee kee h0 n0 OLD VD0 U_ra1 C' D' E' F' SE0 EE0 FE0 VE0) (ow hw 37) (ow hw 36) e1 (g := (mkF m 6 #[vR ra0, vR ra1] [.ref ra1, .ref ra0])) rfl (zs hml) (argsL := [.ref ra1]) (rest := [.ref ra0]) (lenOf pd_26 rfl) rfl (hb hby d5_6) (W := 1) rfl
 obtain ⟨hc3, rfl, Nq2, eq2⟩ := hQ2
 have N2 := Fr.app N0 Nq2
 refine ot T2 (mkF m 9 #[vR ra0, vR ra1] [.ref el, .ref ra0]) st2 ?_
 obtain ⟨T4, h4, X4, e4, W4, st4⟩ := putF X2 hx hZ hown (host := "") (Or.inl (ow hw 63)) Via.refl eq2 B' A' (Or.inr ⟨(ow hw 64), rfl, hnm⟩) (ow hw 2) (ty := (.object "java/util/List")) (by decide) rfl rfl (g := (mkF m 9 #[vR ra0, vR ra1] [.ref el, .ref ra0])) rfl rfl (hb hby d5_9)
 have Fw4 := B'.same W4
 have N4 := Fr.snoc X4 N2 G'
 refine og T4 (mkF m 12 #[vR ra0, vR ra1] []) st4 ?_
 have KEEP := ((Keep.refl h0 [ra0]).wr W4 (Or.inl (List.mem_of_getElem? (i := 0) rfl)))
 exact own_leaveN X4 hlk (v := none) (fun _ => rfl) (lb rfl) (lb rfl) (by rw [e4]; exact ⟨hc3, rfl, N4, KEEP, Fw4⟩) (fun fs hr => X4.returnOut hx hret (hb hby d5_12) hr)
abbrev R14_55 : Room := { frames := 0, cells := 0, slots := 0, locals := 0 }
def Q14_55 (Z : State)  (h0 : Heap) (n0 : Nat) (v : Option Value) (h : Heap) (L : List Loc) : Prop := (v = some (.int 10) ∧ Fr n0 L ∧ h = h0)
theorem rm14_55 l Z a0 (hw : HW Z a0)  h0 n0 (OLD : Old Z n0 h0) :
  own_CN l Z y16 jdk_29_method_65_code 2 (some .int) [] R14_55 #[.int 10, .int 1] h0 (Q14_55 Z  h0 n0) := by
 refine own_entryN (Jvm.Free.JP.mathPlain rfl (by decide +kernel)) fun p e s m below meth c s₁ hx hby hml hown hnm hret hlk hZ hh X0 e0 => ?_
 have N0 := Fr.nil n0
 rw [ef_14_55 m ]
 refine og s₁ (mkF m 10 #[vI 10, vI 1] [.int 10]) (fun _ k => qi X0 hx hby d14_0 rfl rfl (qi X0 hx hby d14_1 rfl rfl (qn X0 hx hby d14_2 rfl rfl (flt (by decide : ¬ ((10 : Int32) < (1 : Int32)))).1 (qi X0 hx hby d14_5 rfl rfl (XS.goto X0.here hx rfl (pc0 := 6) (pc' := 10) rfl (hb hby d14_6) (by decide) (by decide) k))))) ?_
 exact own_leaveN X0 hlk (v := some (.int 10)) (own_nr hret) (lb rfl) (lb rfl) (by rw [e0]; exact ⟨rfl, N0, rfl⟩) (fun fs hr => retI X0 hx hret (hb hby d14_10) hr)
abbrev R13_54 : Room := { frames := 1, cells := 1, slots := 10, locals := 14 }
def Q13_54 (Z : State) (ra0 da : Addr) (kda : ClassId) (h0 : Heap) (n0 : Nat) (v : Option Value) (h : Heap) (L : List Loc) : Prop := (∃ (b6 : Addr) (k6 : ClassId), v = some (.ref b6) ∧ Fr n0 L ∧ Keep h0 h [ra0] ∧ h0.size ≤ b6 ∧ Unt h ra0 ∧ Fld Z h ra0 cN2 "elementData" "[Ljava/lang/Object;" (.ref b6) ∧ Fld Z h ra0 cN5 "modCount" "I" (.int 1) ∧ Fld Z h ra0 cN2 "size" "I" (.int 0) ∧ Exa Z h b6 "[Ljava/lang/Object;" ∧ Arv Z h b6 k6 (.object cN1) (10 : Int32) (own_rn 0 0 10) .null ∧ Ovr Z k6 cN1)
theorem rm13_54 l Z a0 (hw : HW Z a0) ra0 da kda h0 n0 (OLD : Old Z n0 h0) (VD0 : Arv Z Z.heap da kda (.object cN1) (0 : Int32) [] .null) (U_ra0 : Unt h0 ra0) (A' : Exa Z h0 ra0 cN2) (B' : Fld Z h0 ra0 cN2 "elementData" "[Ljava/lang/Object;" (.ref da)) (C' : Fld Z h0 ra0 cN5 "modCount" "I" (.int 1)) (D' : Fld Z h0 ra0 cN2 "size" "I" (.int 0)) (SD0 : Sta Z Z.heap cN2 "DEFAULTCAPACITY_EMPTY_ELEMENTDATA" "[Ljava/lang/Object;" (.ref da)) (E' : n0 ≤ ra0) :
  own_CN l Z y42 jdk_38_method_6_code 4 (some (.array (.object cN1))) [] R13_54 #[.ref ra0, .int 1] h0 (Q13_54 Z ra0 da kda h0 n0) := by
 refine own_entryN (plainFor_of_name pn_11) fun p e s m below meth c s₁ hx hby hml hown hnm hret hlk hZ hh X0 e0 => ?_
 have N0 := Fr.nil n0
 rw [ef_13_54 m ra0]
 refine og s₁ (mkF m 1 #[vR ra0, vI 1, vU, vU] [.ref ra0]) (fun _ k => qa X0 hx hby d13_0 rfl rfl rfl k) ?_
 obtain ⟨T1, X1, e1, st1⟩ := qf X0 hx hZ hown (ow hw 28) e0 B' (g := (mkF m 1 #[vR ra0, vI 1, vU, vU] [.ref ra0])) rfl rfl hby d13_1
 refine og T1 (mkF m 4 #[vR ra0, vI 1, vU, vU] [.ref da]) st1 ?_
 obtain ⟨cl2, Ar2, -, Sr2, Nr2, -, -⟩ := id (VD0.ext OLD.2)
 refine og T1 (mkF m 5 #[vR ra0, vI 1, vU, vU] [.int 0]) (fun t k => X1.arraylength hx (by rw [e1]; exact Ar2.1) (State.isArrayOf_alike hZ.alike Ar2.2.1) (g := (mkF m 4 #[vR ra0, vI 1, vU, vU] [.ref da])) rfl rfl (hb hby d13_4) t (by rw [len_of Sr2 Nr2]; exact k)) ?_
 refine og T1 (mkF m 11 #[vR ra0, vI 1, vI 0, vU] [.ref ra0]) (fun _ k => XS.istoreN X1.here hx rfl (hb hby d13_5) rfl (l' := #[vR ra0, vI 1, vI 0, vU]) rfl (qi X1 hx hby d13_6 rfl rfl (XS.ifNo X1.here hx rfl (hb hby d13_7) rfl ((if0 _ _).trans (flt (by decide : ¬ ((0 : Int32) < (0 : Int32)))).2.2.1) (qa X1 hx hby d13_10 rfl rfl rfl k)))) ?_
 obtain ⟨T3, X3, e3, st3⟩ := qf X1 hx hZ hown (ow hw 28) e1 B' (g := (mkF m 11 #[vR ra0, vI 1, vI 0, vU] [.ref ra0])) rfl rfl hby d13_11
 refine og T3 (mkF m 14 #[vR ra0, vI 1, vI 0, vU] [.ref da]) st3 ?_
 obtain ⟨T4, X4, e4, st4⟩ := getS2 X3 hx hZ hown (host := "") (Or.inl (ow hw 27)) Via.refl e3 (SD0.ext OLD.2) (g := (mkF m 14 #[vR ra0, vI 1, vI 0, vU] [.ref da])) rfl (hb hby d13_14)
 refine og T4 (mkF m 49 #[vR ra0, vI 1, vI 0, vU] [.int 1, .int 10, .ref ra0]) (fun _ k => st4 _ (Jvm.RoadKit.acmp (g := (mkF m 17 #[vR ra0, vI 1, vI 0, vU] [.ref da, .ref da])) X4 hx rfl rfl rfl (pc0 := 17) (pc' := 45) (same := true) rfl (hb hby d13_17) rfl (decide_eq_true rfl) (by decide) (by decide) (qa X4 hx hby d13_45 rfl rfl rfl (qb X4 hx hby d13_46 rfl (qi X4 hx hby d13_48 rfl rfl k))))) ?_
 obtain ⟨_, T5, L5, X5, hQ5, st5⟩ := own_tc X4 hx hZ hown (ow hw 87) (ow hw 88) (rm14_55 l Z a0 hw  h0 n0 OLD ) (ow hw 90) (ow hw 89) e4 (g := (mkF m 49 #[vR ra0, vI 1, vI 0, vU] [.int 1, .int 10, .ref ra0])) rfl (zs hml) (argsL := [.int 10, .int 1]) (rest := [.ref ra0]) (lenOf pd_13 rfl) rfl (hb hby d13_49) (W := 1) rfl
 obtain ⟨rfl, Nq5, eq5⟩ := hQ5
 have N5 := Fr.app N0 Nq5
 refine ot T5 (mkF m 52 #[vR ra0, vI 1, vI 0, vU] [.int 10, .ref ra0]) st5 ?_
 obtain ⟨T6, h6, k6, X6, e6, E6, A6, Ea6, O6, st6⟩ := newRE X5 hx hZ hown (ow hw 91) (ow hw 92) eq5 (g := (mkF m 52 #[vR ra0, vI 1, vI 0, vU] [.int 10, .ref ra0])) rfl (hb hby d13_52) rfl (by decide) (cap := 10) (by decide) (lb rfl) (lb rfl) (lb rfl) (ad := "[Ljava/lang/Object;") (by decide)
 obtain ⟨b6, gb6⟩ : ∃ z, z = h0.size := ⟨_, rfl⟩
 rw [← gb6] at A6 Ea6 st6
 have g7 : n0 ≤ b6 := Nat.le_trans (own_osz OLD) (Nat.le_of_eq gb6.symm)
 have z8 : h0.size ≤ b6 := Nat.le_trans (Nat.le_refl _) (Nat.le_of_eq gb6.symm)
 have V6 : Arv Z h6 b6 k6 (.object cN1) (10 : Int32) (own_rn 0 0 10) .null := (Arv.new A6 (by decide)).pad (pad_rep [] .null 10)
 refine og T6 (mkF m 56 #[vR ra0, vI 1, vI 0, vU] [.ref b6, .ref ra0, .ref b6]) (fun _ k => st6 _ (XS.dupX1 X6.here hx rfl (hb hby d13_55) rfl rfl rfl k)) ?_
 have F9 := (A'.ext E6)
 have F10 := (B'.ext E6)
 obtain ⟨T11, h11, X11, e11, W11, st11⟩ := putF X6 hx hZ hown (host := "") (Or.inl (ow hw 28)) Via.refl e6 F10 F9 (Or.inl (ow hw 29)) (ow hw 5) (ty := (.array (.object cN1))) (by decide) rfl rfl (g := (mkF m 56 #[vR ra0, vI 1, vI 0, vU] [.ref b6, .ref ra0, .ref b6])) rfl rfl (hb hby d13_56)
 have Fw11 := F10.same W11
 have N11 := Fr.snoc X11 N5 E'
 refine og T11 (mkF m 59 #[vR ra0, vI 1, vI 0, vU] [.ref b6]) st11 ?_
 have F12 := ((U_ra0.ext E6).wr W11)
 have F13 := ((C'.ext E6).other W11 (Or.inr (slot_ne (Or.inl (ow hw 26)) (Or.inl (ow hw 29)) (by decide) (t := .int) (t' := (.array (.object cN1))) (by decide) (by decide))))
 have F14 := ((D'.ext E6).other W11 (Or.inr (slot_ne (Or.inl (ow hw 58)) (Or.inl (ow hw 29)) (by decide) (t := .int) (t' := (.array (.object cN1))) (by decide) (by decide))))
 have F15 := (Ea6.wr W11)
 have F16 := (V6.other W11 (Ne.symm (own_ne_lo A'.lt (Nat.le_of_eq gb6.symm))))
 have KEEP := (((Keep.refl h0 [ra0]).ext E6).wr W11 (Or.inl (List.mem_of_getElem? (i := 0) rfl)))
 exact own_leaveN X11 hlk (v := some (.ref b6)) (own_nr hret) (lb rfl) (lb rfl) (by rw [e11]; exact ⟨b6, k6, rfl, N11, KEEP, z8, F12, Fw11, F13, F14, F15, F16, O6⟩) (own_ra X11 hx hret rfl rfl rfl (hb hby d13_59))
abbrev R12_53 : Room := { frames := 2, cells := 1, slots := 10, locals := 29 }
def Q12_53 (Z : State) (ra0 da : Addr) (kda : ClassId) (h0 : Heap) (n0 : Nat) (v : Option Value) (h : Heap) (L : List Loc) : Prop := (∃ (o3 : Addr) (kc4 : ClassId), v = some (.ref o3) ∧ Fr n0 L ∧ Keep h0 h [ra0] ∧ h0.size ≤ o3 ∧ Unt h ra0 ∧ Fld Z h ra0 cN2 "elementData" "[Ljava/lang/Object;" (.ref o3) ∧ Fld Z h ra0 cN5 "modCount" "I" (.int 1) ∧ Fld Z h ra0 cN2 "size" "I" (.int 0) ∧ Exa Z h o3 "[Ljava/lang/Object;" ∧ Arv Z h o3 kc4 (.object cN1) (10 : Int32) (own_rn 0 0 10) .null ∧ Ovr Z kc4 cN1)
theorem rm12_53 l Z a0 (hw : HW Z a0) ra0 da kda h0 n0 (OLD : Old Z n0 h0) (VD0 : Arv Z Z.heap da kda (.object cN1) (0 : Int32) [] .null) (U_ra0 : Unt h0 ra0) (A' : Exa Z h0 ra0 cN2) (B' : Fld Z h0 ra0 cN2 "elementData" "[Ljava/lang/Object;" (.ref da)) (C' : Fld Z h0 ra0 cN5 "modCount" "I" (.int 1)) (D' : Fld Z h0 ra0 cN2 "size" "I" (.int 0)) (SD0 : Sta Z Z.heap cN2 "DEFAULTCAPACITY_EMPTY_ELEMENTDATA" "[Ljava/lang/Object;" (.ref da)) (E' : n0 ≤ ra0) :
  own_CN l Z y43 jdk_38_method_7_code 1 (some (.array (.object cN1))) [] R12_53 #[.ref ra0] h0 (Q12_53 Z ra0 da kda h0 n0) := by
 refine own_entryN (plainFor_of_name pn_11) fun p e s m below meth c s₁ hx hby hml hown hnm hret hlk hZ hh X0 e0 => ?_
 have N0 := Fr.nil n0
 rw [ef_26_1 m ra0]
 refine og s₁ (mkF m 2 #[vR ra0] [.ref ra0, .ref ra0]) (fun _ k => qa X0 hx hby d12_0 rfl rfl rfl (qa X0 hx hby d12_1 rfl rfl rfl k)) ?_
 obtain ⟨T1, X1, e1, st1⟩ := qf X0 hx hZ hown (ow hw 57) e0 D' (g := (mkF m 2 #[vR ra0] [.ref ra0, .ref ra0])) rfl rfl hby d12_2
 refine og T1 (mkF m 7 #[vR ra0] [.int 1, .ref ra0]) (fun _ k => st1 _ (qc X1 hx hby d12_5 rfl (qp X1 hx hby d12_6 rfl rfl k))) ?_
 obtain ⟨_, T2, L2, X2, hQ2, st2⟩ := own_pc X1 hx hZ hown (ow hw 82) (ow hw 85) (ow hw 83) (ow hw 84) A' (rm13_54 l Z a0 hw ra0 da kda h0 n0 OLD VD0 U_ra0 A' B' C' D' SD0 E') (ow hw 86) (ow hw 6) e1 (g := (mkF m 7 #[vR ra0] [.int 1, .ref ra0])) rfl (zs hml) (argsL := [.int 1]) (rest := []) (lenOf pd_28 rfl) rfl (hb hby d12_7) (W := 0) rfl
 obtain ⟨o3, kc4, rfl, Nq2, K2, f5, f6, f7, f8, f9, f10, f11, f12⟩ := hQ2
 have N2 := Fr.app N0 Nq2
 have g13 : n0 ≤ o3 := Nat.le_trans (own_osz OLD) f5
 have z14 : h0.size ≤ o3 := Nat.le_trans (Nat.le_refl _) f5
 refine ot T2 (mkF m 10 #[vR ra0] [.ref o3]) st2 ?_
 have KEEP := ((Keep.refl h0 [ra0]).trans K2 (allS (Or.inl (List.mem_of_getElem? (i := 0) rfl)) all0))
 exact own_leaveN X2 hlk (v := some (.ref o3)) (own_nr hret) (lb rfl) (lb rfl) (by exact ⟨o3, kc4, rfl, N2, KEEP, z14, f6, f7, f8, f9, f10, f11, f12⟩) (own_ra X2 hx hret rfl rfl rfl (hb hby d12_10))
abbrev R11_52 : Room := { frames := 3, cells := 1, slots := 10, locals := 41 }
def Q11_52 (Z : State) (ra0 ra1 da : Addr) (kda : ClassId) (el ee : Addr) (kee : ClassId) (h0 : Heap) (n0 : Nat) (v : Option Value) (h : Heap) (L : List Loc) : Prop := (∃ (o3 : Addr) (kc4 : ClassId), v = none ∧ Fr n0 L ∧ Keep h0 h [ra0] ∧ h0.size ≤ o3 ∧ Unt h ra0 ∧ Fld Z h ra0 cN2 "elementData" "[Ljava/lang/Object;" (.ref o3) ∧ Fld Z h ra0 cN5 "modCount" "I" (.int 1) ∧ Fld Z h ra0 cN2 "size" "I" (.int 1) ∧ Exa Z h o3 "[Ljava/lang/Object;" ∧ Arv Z h o3 kc4 (.object cN1) (10 : Int32) (own_rn 1 ra1 9) .null ∧ Ovr Z kc4 cN1)
theorem rm11_52 l Z a0 (hw : HW Z a0) ra0 ra1 da kda el ee kee h0 n0 (OLD : Old Z n0 h0) (VD0 : Arv Z Z.heap da kda (.object cN1) (0 : Int32) [] .null) (EE0 : Exa Z Z.heap el cN3) (FE0 : Fld Z Z.heap el cN3 "elements" "[Ljava/lang/Object;" (.ref ee)) (VE0 : Arv Z Z.heap ee kee (.object cN1) (0 : Int32) [] .null) (U_ra0 : Unt h0 ra0) (A' : Exa Z h0 ra0 cN2) (B' : Fld Z h0 ra0 cN2 "elementData" "[Ljava/lang/Object;" (.ref da)) (C' : Fld Z h0 ra0 cN5 "modCount" "I" (.int 1)) (D' : Fld Z h0 ra0 cN2 "size" "I" (.int 0)) (E' : Exa Z h0 ra1 cN0) (F' : Fld Z h0 ra1 cN0 "steps" "Ljava/util/List;" (.ref el)) (SD0 : Sta Z Z.heap cN2 "DEFAULTCAPACITY_EMPTY_ELEMENTDATA" "[Ljava/lang/Object;" (.ref da)) (G' : n0 ≤ ra0) :
  own_CN l Z y44 jdk_38_method_24_code 4 none [] R11_52 #[.ref ra0, .ref ra1, .ref da, .int 0] h0 (Q11_52 Z ra0 ra1 da kda el ee kee h0 n0) := by
 refine own_entryN (plainFor_of_name pn_11) fun p e s m below meth c s₁ hx hby hml hown hnm hret hlk hZ hh X0 e0 => ?_
 have N0 := Fr.nil n0
 rw [ef_11_52 m ra0 ra1 da]
 refine og s₁ (mkF m 2 #[vR ra0, vR ra1, vR da, vI 0] [.ref da, .int 0]) (fun _ k => qi X0 hx hby d11_0 rfl rfl (qa X0 hx hby d11_1 rfl rfl rfl k)) ?_
 obtain ⟨cl1, Ar1, -, Sr1, Nr1, -, -⟩ := id (VD0.ext OLD.2)
 refine og s₁ (mkF m 3 #[vR ra0, vR ra1, vR da, vI 0] [.int 0, .int 0]) (fun t k => X0.arraylength hx (by rw [e0]; exact Ar1.1) (State.isArrayOf_alike hZ.alike Ar1.2.1) (g := (mkF m 2 #[vR ra0, vR ra1, vR da, vI 0] [.ref da, .int 0])) rfl rfl (hb hby d11_2) t (by rw [len_of Sr1 Nr1]; exact k)) ?_
 refine og s₁ (mkF m 7 #[vR ra0, vR ra1, vR da, vI 0] [.ref ra0]) (fun _ k => qn X0 hx hby d11_3 rfl rfl (tq 0) (qa X0 hx hby d11_6 rfl rfl rfl k)) ?_
 obtain ⟨_, T2, L2, X2, hQ2, st2⟩ := own_pc X0 hx hZ hown (ow hw 77) (ow hw 80) (ow hw 78) (ow hw 79) A' (rm12_53 l Z a0 hw ra0 da kda h0 n0 OLD VD0 U_ra0 A' B' C' D' SD0 G') (ow hw 81) (ow hw 6) e0 (g := (mkF m 7 #[vR ra0, vR ra1, vR da, vI 0] [.ref ra0])) rfl (zs hml) (argsL := []) (rest := []) (lenOf pd_29 rfl) rfl (hb hby d11_7) (W := 0) rfl
 obtain ⟨o3, kc4, rfl, Nq2, K2, f5, f6, f7, f8, f9, f10, f11, f12⟩ := hQ2
 have N2 := Fr.app N0 Nq2
 have g13 : n0 ≤ o3 := Nat.le_trans (own_osz OLD) f5
 have z14 : h0.size ≤ o3 := Nat.le_trans (Nat.le_refl _) f5
 refine og T2 (mkF m 14 #[vR ra0, vR ra1, vR o3, vI 0] [.ref ra1, .int 0, .ref o3]) (fun _ k => st2.trans (XS.astoreN X2.here hx rfl (hb hby d11_10) rfl rfl (l' := #[vR ra0, vR ra1, vR o3, vI 0]) rfl (qa X2 hx hby d11_11 rfl rfl rfl (qi X2 hx hby d11_12 rfl rfl (qa X2 hx hby d11_13 rfl rfl rfl k))))) ?_
 obtain ⟨cl15, Ar15, qr15, Sr15, Nr15, Hr15, Gr15⟩ := id f11
 have F16 := (E'.keep K2)
 obtain ⟨T15, h15, X15, e15, W15, st15⟩ := stR X2 hx hZ rfl Ar15 (j := (0 : Int32)) (inb_of Sr15 ⟨by decide, by decide⟩) rfl (Sto.ofV Ar15 qr15 f12 (Ins.of_exa F16 (ow hw 93))) (g := (mkF m 14 #[vR ra0, vR ra1, vR o3, vI 0] [.ref ra1, .int 0, .ref o3])) rfl rfl (hb hby d11_14)
 have V15 : Arv Z h15 o3 kc4 (.object cN1) (10 : Int32) (own_rn 1 ra1 9) .null := Arv.set Ar15 qr15 Sr15 Nr15 Hr15 Gr15 rfl W15 0 rfl (lb rfl)
 have N15 := Fr.snoc X15 N2 g13
 refine og T15 (mkF m 19 #[vR ra0, vR ra1, vR o3, vI 0] [.int 1, .ref ra0]) (fun _ k => st15 _ (qa X15 hx hby d11_15 rfl rfl rfl (qi X15 hx hby d11_16 rfl rfl (qc X15 hx hby d11_17 rfl (qp X15 hx hby d11_18 rfl rfl k))))) ?_
 have F17 := ((A'.keep K2).wr W15)
 have F18 := (f9.other W15 (Or.inl (own_ne_lo A'.lt f5)))
 obtain ⟨T19, h19, X19, e19, W19, st19⟩ := putF X15 hx hZ hown (host := "") (Or.inl (ow hw 57)) Via.refl e15 F18 F17 (Or.inl (ow hw 58)) (ow hw 5) (ty := .int) (by decide) rfl rfl (g := (mkF m 19 #[vR ra0, vR ra1, vR o3, vI 0] [.int 1, .ref ra0])) rfl rfl (hb hby d11_19)
 have Fw19 := F18.same W19
 have N19 := Fr.snoc X19 N15 G'
 refine og T19 (mkF m 22 #[vR ra0, vR ra1, vR o3, vI 0] []) st19 ?_
 have F20 := ((f6.wr W15).wr W19)
 have F21 := ((f7.other W15 (Or.inl (own_ne_lo A'.lt f5))).other W19 (Or.inr (slot_ne (Or.inl (ow hw 29)) (Or.inl (ow hw 58)) (by decide) (t := (.array (.object cN1))) (t' := .int) (by decide) (by decide))))
 have F22 := ((f8.other W15 (Or.inl (own_ne_lo A'.lt f5))).other W19 (Or.inr (slot_ne (Or.inl (ow hw 26)) (Or.inl (ow hw 58)) (by decide) (t := .int) (t' := .int) (by decide) (by decide))))
 have F23 := ((f10.wr W15).wr W19)
 have F24 := (V15.other W19 (Ne.symm (own_ne_lo A'.lt f5)))
 have KEEP := ((((Keep.refl h0 [ra0]).trans K2 (allS (Or.inl (List.mem_of_getElem? (i := 0) rfl)) all0)).wr W15 (Or.inr z14)).wr W19 (Or.inl (List.mem_of_getElem? (i := 0) rfl)))
 exact own_leaveN X19 hlk (v := none) (fun _ => rfl) (lb rfl) (lb rfl) (by rw [e19]; exact ⟨o3, kc4, rfl, N19, KEEP, z14, F20, F21, F22, Fw19, F23, F24, f12⟩) (fun fs hr => X19.returnOut hx hret (hb hby d11_22) hr)
abbrev R10_51 : Room := { frames := 4, cells := 1, slots := 10, locals := 56 }
def Q10_51 (Z : State) (ra0 ra1 da : Addr) (kda : ClassId) (el ee : Addr) (kee : ClassId) (h0 : Heap) (n0 : Nat) (v : Option Value) (h : Heap) (L : List Loc) : Prop := (∃ (o13 : Addr) (kc14 : ClassId), v = some (.int 1) ∧ Fr n0 L ∧ Keep h0 h [ra0] ∧ h0.size ≤ o13 ∧ Unt h ra0 ∧ Fld Z h ra0 cN2 "elementData" "[Ljava/lang/Object;" (.ref o13) ∧ Fld Z h ra0 cN5 "modCount" "I" (.int 1) ∧ Fld Z h ra0 cN2 "size" "I" (.int 1) ∧ Exa Z h o13 "[Ljava/lang/Object;" ∧ Arv Z h o13 kc14 (.object cN1) (10 : Int32) (own_rn 1 ra1 9) .null ∧ Ovr Z kc14 cN1)
theorem rm10_51 l Z a0 (hw : HW Z a0) ra0 ra1 da kda el ee kee h0 n0 (OLD : Old Z n0 h0) (VD0 : Arv Z Z.heap da kda (.object cN1) (0 : Int32) [] .null) (EE0 : Exa Z Z.heap el cN3) (FE0 : Fld Z Z.heap el cN3 "elements" "[Ljava/lang/Object;" (.ref ee)) (VE0 : Arv Z Z.heap ee kee (.object cN1) (0 : Int32) [] .null) (U_ra0 : Unt h0 ra0) (A' : Exa Z h0 ra0 cN2) (B' : Fld Z h0 ra0 cN2 "elementData" "[Ljava/lang/Object;" (.ref da)) (C' : Fld Z h0 ra0 cN5 "modCount" "I" (.int 0)) (D' : Fld Z h0 ra0 cN2 "size" "I" (.int 0)) (E' : Exa Z h0 ra1 cN0) (F' : Fld Z h0 ra1 cN0 "steps" "Ljava/util/List;" (.ref el)) (G' : n0 ≤ ra0) (ne_ra1_ra0 : ra1 ≠ ra0) (SD0 : Sta Z Z.heap cN2 "DEFAULTCAPACITY_EMPTY_ELEMENTDATA" "[Ljava/lang/Object;" (.ref da)) :
  own_CN l Z y45 jdk_38_method_25_code 2 (some .boolean) [] R10_51 #[.ref ra0, .ref ra1] h0 (Q10_51 Z ra0 ra1 da kda el ee kee h0 n0) := by
 refine own_entryN (plainFor_of_name pn_11) fun p e s m below meth c s₁ hx hby hml hown hnm hret hlk hZ hh X0 e0 => ?_
 have N0 := Fr.nil n0
 rw [ef_24_12 m ra0 ra1]
 refine og s₁ (mkF m 2 #[vR ra0, vR ra1] [.ref ra0, .ref ra0]) (fun _ k => qa X0 hx hby d10_0 rfl rfl rfl (XS.dup X0.here hx rfl (hb hby d10_1) rfl rfl k)) ?_
 obtain ⟨T1, X1, e1, st1⟩ := getF X0 hx hZ hown (host := "") (Or.inl (ow hw 70)) (Via.of (ow hw 71)) e0 C' (g := (mkF m 2 #[vR ra0, vR ra1] [.ref ra0, .ref ra0])) rfl rfl (hb hby d10_2)
 refine og T1 (mkF m 7 #[vR ra0, vR ra1] [.int 1, .ref ra0]) (fun _ k => st1 _ (qc X1 hx hby d10_5 rfl (qp X1 hx hby d10_6 rfl rfl k))) ?_
 obtain ⟨T2, h2, X2, e2, W2, st2⟩ := putF X1 hx hZ hown (host := "") (Or.inl (ow hw 70)) (Via.of (ow hw 71)) e1 C' A' (Or.inl (ow hw 26)) (ow hw 5) (ty := .int) (by decide) rfl rfl (g := (mkF m 7 #[vR ra0, vR ra1] [.int 1, .ref ra0])) rfl rfl (hb hby d10_7)
 have Fw2 := C'.same W2
 have N2 := Fr.snoc X2 N0 G'
 refine og T2 (mkF m 13 #[vR ra0, vR ra1] [.ref ra0, .ref ra1, .ref ra0]) (fun _ k => st2 _ (qa X2 hx hby d10_10 rfl rfl rfl (qa X2 hx hby d10_11 rfl rfl rfl (qa X2 hx hby d10_12 rfl rfl rfl k)))) ?_
 have F3 := (B'.other W2 (Or.inr (slot_ne (Or.inl (ow hw 29)) (Or.inl (ow hw 26)) (by decide) (t := (.array (.object cN1))) (t' := .int) (by decide) (by decide))))
 obtain ⟨T4, X4, e4, st4⟩ := qf X2 hx hZ hown (ow hw 28) e2 F3 (g := (mkF m 13 #[vR ra0, vR ra1] [.ref ra0, .ref ra1, .ref ra0])) rfl rfl hby d10_13
 refine og T4 (mkF m 17 #[vR ra0, vR ra1] [.ref ra0, .ref da, .ref ra1, .ref ra0]) (fun _ k => st4 _ (qa X4 hx hby d10_16 rfl rfl rfl k)) ?_
 have F5 := (D'.other W2 (Or.inr (slot_ne (Or.inl (ow hw 58)) (Or.inl (ow hw 26)) (by decide) (t := .int) (t' := .int) (by decide) (by decide))))
 obtain ⟨T6, X6, e6, st6⟩ := qf X4 hx hZ hown (ow hw 57) e4 F5 (g := (mkF m 17 #[vR ra0, vR ra1] [.ref ra0, .ref da, .ref ra1, .ref ra0])) rfl rfl hby d10_17
 refine og T6 (mkF m 20 #[vR ra0, vR ra1] [.int 0, .ref da, .ref ra1, .ref ra0]) st6 ?_
 have F7 := (U_ra0.wr W2)
 have F8 := (A'.wr W2)
 have F9 := (E'.wr W2)
 have F10 := (F'.other W2 (Or.inl ne_ra1_ra0))
 have F11 := (OLD.wr W2 G')
 obtain ⟨_, T12, L12, X12, hQ12, st12⟩ := own_pc X6 hx hZ hown (ow hw 72) (ow hw 75) (ow hw 73) (ow hw 74) F8 (rm11_52 l Z a0 hw ra0 ra1 da kda el ee kee h2 n0 F11 VD0 EE0 FE0 VE0 F7 F8 F3 Fw2 F5 F9 F10 SD0 G') (ow hw 76) (ow hw 6) e6 (g := (mkF m 20 #[vR ra0, vR ra1] [.int 0, .ref da, .ref ra1, .ref ra0])) rfl (zs hml) (argsL := [.ref ra1, .ref da, .int 0]) (rest := []) (lenOf pd_30 rfl) rfl (hb hby d10_20) (W := 0) rfl
 obtain ⟨o13, kc14, rfl, Nq12, K12, f15, f16, f17, f18, f19, f20, f21, f22⟩ := hQ12
 have N12 := Fr.app N2 Nq12
 have g23 : n0 ≤ o13 := Nat.le_trans (own_osz F11) f15
 have F25 := (Nat.le_trans (Nat.le_refl _) (Nat.le_of_eq W2.size.symm))
 have z24 : h0.size ≤ o13 := Nat.le_trans F25 f15
 refine og T12 (mkF m 24 #[vR ra0, vR ra1] [.int 1]) (fun _ k => st12.trans (qc X12 hx hby d10_23 rfl k)) ?_
 have KEEP := (((Keep.refl h0 [ra0]).wr W2 (Or.inl (List.mem_of_getElem? (i := 0) rfl))).trans K12 (allS (Or.inl (List.mem_of_getElem? (i := 0) rfl)) all0))
 exact own_leaveN X12 hlk (v := some (.int (nar .boolean (1 : Int32)))) (own_nr hret) (lb rfl) (lb rfl) (by exact ⟨o13, kc14, rfl, N12, KEEP, z24, f16, f17, f18, f19, f20, f21, f22⟩) (fun fs hr => retN X12 hx (t := .boolean) hret (by simp) (hb hby d10_24) hr)
abbrev R11_57 : Room := { frames := 0, cells := 0, slots := 0, locals := 0 }
def Q11_57 (Z : State) (ra0 ra1 : Addr) (kc2 : ClassId) (ra3 el ee : Addr) (kee : ClassId) (h0 : Heap) (n0 : Nat) (v : Option Value) (h : Heap) (L : List Loc) : Prop := (v = none ∧ Fr n0 L ∧ Keep h0 h [ra1, ra0] ∧ Arv Z h ra1 kc2 (.object cN1) (10 : Int32) (own_rn 2 ra3 8) .null ∧ Unt h ra0 ∧ Fld Z h ra0 cN2 "elementData" "[Ljava/lang/Object;" (.ref ra1) ∧ Fld Z h ra0 cN5 "modCount" "I" (.int 2) ∧ Fld Z h ra0 cN2 "size" "I" (.int 2))
theorem rm11_57 l Z a0 (hw : HW Z a0) ra0 ra1 kc2 ra3 el ee kee h0 n0 (OLD : Old Z n0 h0) (EE0 : Exa Z Z.heap el cN3) (FE0 : Fld Z Z.heap el cN3 "elements" "[Ljava/lang/Object;" (.ref ee)) (VE0 : Arv Z Z.heap ee kee (.object cN1) (0 : Int32) [] .null) (U_ra0 : Unt h0 ra0) (A' : Exa Z h0 ra0 cN2) (B' : Fld Z h0 ra0 cN2 "elementData" "[Ljava/lang/Object;" (.ref ra1)) (C' : Exa Z h0 ra1 "[Ljava/lang/Object;") (D' : Exa Z h0 ra3 cN0) (E' : Fld Z h0 ra3 cN0 "steps" "Ljava/util/List;" (.ref el)) (F' : Arv Z h0 ra1 kc2 (.object cN1) (10 : Int32) (own_rn 1 ra3 9) .null) (O_ra1 : Ovr Z kc2 cN1) (G' : Fld Z h0 ra0 cN5 "modCount" "I" (.int 2)) (H' : Fld Z h0 ra0 cN2 "size" "I" (.int 1)) (I' : n0 ≤ ra1) (ne_ra0_ra1 : ra0 ≠ ra1) (J' : n0 ≤ ra0) :
  own_CN l Z y44 jdk_38_method_24_code 4 none [] R11_57 #[.ref ra0, .ref ra3, .ref ra1, .int 1] h0 (Q11_57 Z ra0 ra1 kc2 ra3 el ee kee h0 n0) := by
 refine own_entryN (plainFor_of_name pn_11) fun p e s m below meth c s₁ hx hby hml hown hnm hret hlk hZ hh X0 e0 => ?_
 have N0 := Fr.nil n0
 rw [ef_11_57 m ra0 ra3 ra1]
 refine og s₁ (mkF m 2 #[vR ra0, vR ra3, vR ra1, vI 1] [.ref ra1, .int 1]) (fun _ k => qi X0 hx hby d11_0 rfl rfl (qa X0 hx hby d11_1 rfl rfl rfl k)) ?_
 obtain ⟨cl1, Ar1, -, Sr1, Nr1, -, -⟩ := id F'
 refine og s₁ (mkF m 3 #[vR ra0, vR ra3, vR ra1, vI 1] [.int 10, .int 1]) (fun t k => X0.arraylength hx (by rw [e0]; exact Ar1.1) (State.isArrayOf_alike hZ.alike Ar1.2.1) (g := (mkF m 2 #[vR ra0, vR ra3, vR ra1, vI 1] [.ref ra1, .int 1])) rfl rfl (hb hby d11_2) t (by rw [len_of Sr1 Nr1]; exact k)) ?_
 refine og s₁ (mkF m 14 #[vR ra0, vR ra3, vR ra1, vI 1] [.ref ra3, .int 1, .ref ra1]) (fun _ k => XS.icmpYes X0.here hx rfl (pc0 := 3) (pc' := 11) rfl (hb hby d11_3) rfl (feq (by decide : ¬ ((1 : Int32) = (10 : Int32)))).2 (by decide) (by decide) (qa X0 hx hby d11_11 rfl rfl rfl (qi X0 hx hby d11_12 rfl rfl (qa X0 hx hby d11_13 rfl rfl rfl k)))) ?_
 obtain ⟨cl2, Ar2, qr2, Sr2, Nr2, Hr2, Gr2⟩ := id F'
 obtain ⟨T2, h2, X2, e2, W2, st2⟩ := stR X0 hx hZ e0 Ar2 (j := (1 : Int32)) (inb_of Sr2 ⟨by decide, by decide⟩) rfl (Sto.ofV Ar2 qr2 O_ra1 (Ins.of_exa D' (ow hw 93))) (g := (mkF m 14 #[vR ra0, vR ra3, vR ra1, vI 1] [.ref ra3, .int 1, .ref ra1])) rfl rfl (hb hby d11_14)
 have V2 : Arv Z h2 ra1 kc2 (.object cN1) (10 : Int32) (own_rn 2 ra3 8) .null := Arv.set Ar2 qr2 Sr2 Nr2 Hr2 Gr2 rfl W2 1 rfl (lb rfl)
 have N2 := Fr.snoc X2 N0 I'
 refine og T2 (mkF m 19 #[vR ra0, vR ra3, vR ra1, vI 1] [.int 2, .ref ra0]) (fun _ k => st2 _ (qa X2 hx hby d11_15 rfl rfl rfl (qi X2 hx hby d11_16 rfl rfl (qc X2 hx hby d11_17 rfl (qp X2 hx hby d11_18 rfl rfl k))))) ?_
 have F3 := (A'.wr W2)
 have F4 := (H'.other W2 (Or.inl ne_ra0_ra1))
 obtain ⟨T5, h5, X5, e5, W5, st5⟩ := putF X2 hx hZ hown (host := "") (Or.inl (ow hw 57)) Via.refl e2 F4 F3 (Or.inl (ow hw 58)) (ow hw 5) (ty := .int) (by decide) rfl rfl (g := (mkF m 19 #[vR ra0, vR ra3, vR ra1, vI 1] [.int 2, .ref ra0])) rfl rfl (hb hby d11_19)
 have Fw5 := F4.same W5
 have N5 := Fr.snoc X5 N2 J'
 refine og T5 (mkF m 22 #[vR ra0, vR ra3, vR ra1, vI 1] []) st5 ?_
 have F6 := (V2.other W5 (Ne.symm ne_ra0_ra1))
 have F7 := ((U_ra0.wr W2).wr W5)
 have F8 := ((B'.other W2 (Or.inl ne_ra0_ra1)).other W5 (Or.inr (slot_ne (Or.inl (ow hw 29)) (Or.inl (ow hw 58)) (by decide) (t := (.array (.object cN1))) (t' := .int) (by decide) (by decide))))
 have F9 := ((G'.other W2 (Or.inl ne_ra0_ra1)).other W5 (Or.inr (slot_ne (Or.inl (ow hw 26)) (Or.inl (ow hw 58)) (by decide) (t := .int) (t' := .int) (by decide) (by decide))))
 have KEEP := (((Keep.refl h0 [ra1, ra0]).wr W2 (Or.inl (List.mem_of_getElem? (i := 0) rfl))).wr W5 (Or.inl (List.mem_of_getElem? (i := 1) rfl)))
 exact own_leaveN X5 hlk (v := none) (fun _ => rfl) (lb rfl) (lb rfl) (by rw [e5]; exact ⟨rfl, N5, KEEP, F6, F7, F8, F9, Fw5⟩) (fun fs hr => X5.returnOut hx hret (hb hby d11_22) hr)
abbrev R10_56 : Room := { frames := 1, cells := 0, slots := 0, locals := 15 }
def Q10_56 (Z : State) (ra0 ra1 : Addr) (kc2 : ClassId) (ra3 el ee : Addr) (kee : ClassId) (h0 : Heap) (n0 : Nat) (v : Option Value) (h : Heap) (L : List Loc) : Prop := (v = some (.int 1) ∧ Fr n0 L ∧ Keep h0 h [ra0, ra1] ∧ Unt h ra0 ∧ Fld Z h ra0 cN2 "elementData" "[Ljava/lang/Object;" (.ref ra1) ∧ Fld Z h ra0 cN5 "modCount" "I" (.int 2) ∧ Fld Z h ra0 cN2 "size" "I" (.int 2) ∧ Arv Z h ra1 kc2 (.object cN1) (10 : Int32) (own_rn 2 ra3 8) .null)
theorem rm10_56 l Z a0 (hw : HW Z a0) ra0 ra1 kc2 ra3 el ee kee h0 n0 (OLD : Old Z n0 h0) (EE0 : Exa Z Z.heap el cN3) (FE0 : Fld Z Z.heap el cN3 "elements" "[Ljava/lang/Object;" (.ref ee)) (VE0 : Arv Z Z.heap ee kee (.object cN1) (0 : Int32) [] .null) (U_ra0 : Unt h0 ra0) (A' : Exa Z h0 ra0 cN2) (B' : Fld Z h0 ra0 cN2 "elementData" "[Ljava/lang/Object;" (.ref ra1)) (C' : Exa Z h0 ra1 "[Ljava/lang/Object;") (D' : Exa Z h0 ra3 cN0) (E' : Fld Z h0 ra3 cN0 "steps" "Ljava/util/List;" (.ref el)) (F' : Arv Z h0 ra1 kc2 (.object cN1) (10 : Int32) (own_rn 1 ra3 9) .null) (O_ra1 : Ovr Z kc2 cN1) (G' : Fld Z h0 ra0 cN5 "modCount" "I" (.int 1)) (H' : Fld Z h0 ra0 cN2 "size" "I" (.int 1)) (I' : n0 ≤ ra0) (ne_ra3_ra0 : ra3 ≠ ra0) (ne_ra1_ra0 : ra1 ≠ ra0) (J' : n0 ≤ ra1) :
  own_CN l Z y45 jdk_38_method_25_code 2 (some .boolean) [] R10_56 #[.ref ra0, .ref ra3] h0 (Q10_56 Z ra0 ra1 kc2 ra3 el ee kee h0 n0) := by
 refine own_entryN (plainFor_of_name pn_11) fun p e s m below meth c s₁ hx hby hml hown hnm hret hlk hZ hh X0 e0 => ?_
 have N0 := Fr.nil n0
 rw [ef_24_12 m ra0 ra3]
 refine og s₁ (mkF m 2 #[vR ra0, vR ra3] [.ref ra0, .ref ra0]) (fun _ k => qa X0 hx hby d10_0 rfl rfl rfl (XS.dup X0.here hx rfl (hb hby d10_1) rfl rfl k)) ?_
 obtain ⟨T1, X1, e1, st1⟩ := getF X0 hx hZ hown (host := "") (Or.inl (ow hw 70)) (Via.of (ow hw 71)) e0 G' (g := (mkF m 2 #[vR ra0, vR ra3] [.ref ra0, .ref ra0])) rfl rfl (hb hby d10_2)
 refine og T1 (mkF m 7 #[vR ra0, vR ra3] [.int 2, .ref ra0]) (fun _ k => st1 _ (qc X1 hx hby d10_5 rfl (qp X1 hx hby d10_6 rfl rfl k))) ?_
 obtain ⟨T2, h2, X2, e2, W2, st2⟩ := putF X1 hx hZ hown (host := "") (Or.inl (ow hw 70)) (Via.of (ow hw 71)) e1 G' A' (Or.inl (ow hw 26)) (ow hw 5) (ty := .int) (by decide) rfl rfl (g := (mkF m 7 #[vR ra0, vR ra3] [.int 2, .ref ra0])) rfl rfl (hb hby d10_7)
 have Fw2 := G'.same W2
 have N2 := Fr.snoc X2 N0 I'
 refine og T2 (mkF m 13 #[vR ra0, vR ra3] [.ref ra0, .ref ra3, .ref ra0]) (fun _ k => st2 _ (qa X2 hx hby d10_10 rfl rfl rfl (qa X2 hx hby d10_11 rfl rfl rfl (qa X2 hx hby d10_12 rfl rfl rfl k)))) ?_
 have F3 := (B'.other W2 (Or.inr (slot_ne (Or.inl (ow hw 29)) (Or.inl (ow hw 26)) (by decide) (t := (.array (.object cN1))) (t' := .int) (by decide) (by decide))))
 obtain ⟨T4, X4, e4, st4⟩ := qf X2 hx hZ hown (ow hw 28) e2 F3 (g := (mkF m 13 #[vR ra0, vR ra3] [.ref ra0, .ref ra3, .ref ra0])) rfl rfl hby d10_13
 refine og T4 (mkF m 17 #[vR ra0, vR ra3] [.ref ra0, .ref ra1, .ref ra3, .ref ra0]) (fun _ k => st4 _ (qa X4 hx hby d10_16 rfl rfl rfl k)) ?_
 have F5 := (H'.other W2 (Or.inr (slot_ne (Or.inl (ow hw 58)) (Or.inl (ow hw 26)) (by decide) (t := .int) (t' := .int) (by decide) (by decide))))
 obtain ⟨T6, X6, e6, st6⟩ := qf X4 hx hZ hown (ow hw 57) e4 F5 (g := (mkF m 17 #[vR ra0, vR ra3] [.ref ra0, .ref ra1, .ref ra3, .ref ra0])) rfl rfl hby d10_17
 refine og T6 (mkF m 20 #[vR ra0, vR ra3] [.int 1, .ref ra1, .ref ra3, .ref ra0]) st6 ?_
 have F7 := (U_ra0.wr W2)
 have F8 := (A'.wr W2)
 have F9 := (C'.wr W2)
 have F10 := (D'.wr W2)
 have F11 := (E'.other W2 (Or.inl ne_ra3_ra0))
 have F12 := (F'.other W2 ne_ra1_ra0)
 have F13 := (OLD.wr W2 I')
 obtain ⟨_, T14, L14, X14, hQ14, st14⟩ := own_pc X6 hx hZ hown (ow hw 72) (ow hw 75) (ow hw 73) (ow hw 74) F8 (rm11_57 l Z a0 hw ra0 ra1 kc2 ra3 el ee kee h2 n0 F13 EE0 FE0 VE0 F7 F8 F3 F9 F10 F11 F12 O_ra1 Fw2 F5 J' (Ne.symm ne_ra1_ra0) I') (ow hw 76) (ow hw 6) e6 (g := (mkF m 20 #[vR ra0, vR ra3] [.int 1, .ref ra1, .ref ra3, .ref ra0])) rfl (zs hml) (argsL := [.ref ra3, .ref ra1, .int 1]) (rest := []) (lenOf pd_30 rfl) rfl (hb hby d10_20) (W := 0) rfl
 obtain ⟨rfl, Nq14, K14, f15, f16, f17, f18, f19⟩ := hQ14
 have N14 := Fr.app N2 Nq14
 refine og T14 (mkF m 24 #[vR ra0, vR ra3] [.int 1]) (fun _ k => st14.trans (qc X14 hx hby d10_23 rfl k)) ?_
 have KEEP := (((Keep.refl h0 [ra0, ra1]).wr W2 (Or.inl (List.mem_of_getElem? (i := 0) rfl))).trans K14 (allS (Or.inl (List.mem_of_getElem? (i := 1) rfl)) (allS (Or.inl (List.mem_of_getElem? (i := 0) rfl)) all0)))
 exact own_leaveN X14 hlk (v := some (.int (nar .boolean (1 : Int32)))) (own_nr hret) (lb rfl) (lb rfl) (by exact ⟨rfl, N14, KEEP, f16, f17, f18, f19, f15⟩) (fun fs hr => retN X14 hx (t := .boolean) hret (by simp) (hb hby d10_24) hr)
abbrev R11_59 : Room := { frames := 0, cells := 0, slots := 0, locals := 0 }
def Q11_59 (Z : State) (ra0 ra1 : Addr) (kc2 : ClassId) (ra3 el ee : Addr) (kee : ClassId) (h0 : Heap) (n0 : Nat) (v : Option Value) (h : Heap) (L : List Loc) : Prop := (v = none ∧ Fr n0 L ∧ Keep h0 h [ra1, ra0] ∧ Arv Z h ra1 kc2 (.object cN1) (10 : Int32) (own_rn 3 ra3 7) .null ∧ Unt h ra0 ∧ Fld Z h ra0 cN2 "elementData" "[Ljava/lang/Object;" (.ref ra1) ∧ Fld Z h ra0 cN5 "modCount" "I" (.int 3) ∧ Fld Z h ra0 cN2 "size" "I" (.int 3))
theorem rm11_59 l Z a0 (hw : HW Z a0) ra0 ra1 kc2 ra3 el ee kee h0 n0 (OLD : Old Z n0 h0) (EE0 : Exa Z Z.heap el cN3) (FE0 : Fld Z Z.heap el cN3 "elements" "[Ljava/lang/Object;" (.ref ee)) (VE0 : Arv Z Z.heap ee kee (.object cN1) (0 : Int32) [] .null) (U_ra0 : Unt h0 ra0) (A' : Exa Z h0 ra0 cN2) (B' : Fld Z h0 ra0 cN2 "elementData" "[Ljava/lang/Object;" (.ref ra1)) (C' : Exa Z h0 ra1 "[Ljava/lang/Object;") (D' : Exa Z h0 ra3 cN0) (E' : Fld Z h0 ra3 cN0 "steps" "Ljava/util/List;" (.ref el)) (F' : Arv Z h0 ra1 kc2 (.object cN1) (10 : Int32) (own_rn 2 ra3 8) .null) (O_ra1 : Ovr Z kc2 cN1) (G' : Fld Z h0 ra0 cN5 "modCount" "I" (.int 3)) (H' : Fld Z h0 ra0 cN2 "size" "I" (.int 2)) (I' : n0 ≤ ra1) (ne_ra0_ra1 : ra0 ≠ ra1) (J' : n0 ≤ ra0) :
  own_CN l Z y44 jdk_38_method_24_code 4 none [] R11_59 #[.ref ra0, .ref ra3, .ref ra1, .int 2] h0 (Q11_59 Z ra0 ra1 kc2 ra3 el ee kee h0 n0) := by
 refine own_entryN (plainFor_of_name pn_11) fun p e s m below meth c s₁ hx hby hml hown hnm hret hlk hZ hh X0 e0 => ?_
 have N0 := Fr.nil n0
 rw [ef_11_59 m ra0 ra3 ra1]
 refine og s₁ (mkF m 2 #[vR ra0, vR ra3, vR ra1, vI 2] [.ref ra1, .int 2]) (fun _ k => qi X0 hx hby d11_0 rfl rfl (qa X0 hx hby d11_1 rfl rfl rfl k)) ?_
 obtain ⟨cl1, Ar1, -, Sr1, Nr1, -, -⟩ := id F'
 refine og s₁ (mkF m 3 #[vR ra0, vR ra3, vR ra1, vI 2] [.int 10, .int 2]) (fun t k => X0.arraylength hx (by rw [e0]; exact Ar1.1) (State.isArrayOf_alike hZ.alike Ar1.2.1) (g := (mkF m 2 #[vR ra0, vR ra3, vR ra1, vI 2] [.ref ra1, .int 2])) rfl rfl (hb hby d11_2) t (by rw [len_of Sr1 Nr1]; exact k)) ?_
 refine og s₁ (mkF m 14 #[vR ra0, vR ra3, vR ra1, vI 2] [.ref ra3, .int 2, .ref ra1]) (fun _ k => XS.icmpYes X0.here hx rfl (pc0 := 3) (pc' := 11) rfl (hb hby d11_3) rfl (feq (by decide : ¬ ((2 : Int32) = (10 : Int32)))).2 (by decide) (by decide) (qa X0 hx hby d11_11 rfl rfl rfl (qi X0 hx hby d11_12 rfl rfl (qa X0 hx hby d11_13 rfl rfl rfl k)))) ?_
 obtain ⟨cl2, Ar2, qr2, Sr2, Nr2, Hr2, Gr2⟩ := id F'
 obtain ⟨T2, h2, X2, e2, W2, st2⟩ := stR X0 hx hZ e0 Ar2 (j := (2 : Int32)) (inb_of Sr2 ⟨by decide, by decide⟩) rfl (Sto.ofV Ar2 qr2 O_ra1 (Ins.of_exa D' (ow hw 93))) (g := (mkF m 14 #[vR ra0, vR ra3, vR ra1, vI 2] [.ref ra3, .int 2, .ref ra1])) rfl rfl (hb hby d11_14)
 have V2 : Arv Z h2 ra1 kc2 (.object cN1) (10 : Int32) (own_rn 3 ra3 7) .null := Arv.set Ar2 qr2 Sr2 Nr2 Hr2 Gr2 rfl W2 2 rfl (lb rfl)
 have N2 := Fr.snoc X2 N0 I'
 refine og T2 (mkF m 19 #[vR ra0, vR ra3, vR ra1, vI 2] [.int 3, .ref ra0]) (fun _ k => st2 _ (qa X2 hx hby d11_15 rfl rfl rfl (qi X2 hx hby d11_16 rfl rfl (qc X2 hx hby d11_17 rfl (qp X2 hx hby d11_18 rfl rfl k))))) ?_
 have F3 := (A'.wr W2)
 have F4 := (H'.other W2 (Or.inl ne_ra0_ra1))
 obtain ⟨T5, h5, X5, e5, W5, st5⟩ := putF X2 hx hZ hown (host := "") (Or.inl (ow hw 57)) Via.refl e2 F4 F3 (Or.inl (ow hw 58)) (ow hw 5) (ty := .int) (by decide) rfl rfl (g := (mkF m 19 #[vR ra0, vR ra3, vR ra1, vI 2] [.int 3, .ref ra0])) rfl rfl (hb hby d11_19)
 have Fw5 := F4.same W5
 have N5 := Fr.snoc X5 N2 J'
 refine og T5 (mkF m 22 #[vR ra0, vR ra3, vR ra1, vI 2] []) st5 ?_
 have F6 := (V2.other W5 (Ne.symm ne_ra0_ra1))
 have F7 := ((U_ra0.wr W2).wr W5)
 have F8 := ((B'.other W2 (Or.inl ne_ra0_ra1)).other W5 (Or.inr (slot_ne (Or.inl (ow hw 29)) (Or.inl (ow hw 58)) (by decide) (t := (.array (.object cN1))) (t' := .int) (by decide) (by decide))))
 have F9 := ((G'.other W2 (Or.inl ne_ra0_ra1)).other W5 (Or.inr (slot_ne (Or.inl (ow hw 26)) (Or.inl (ow hw 58)) (by decide) (t := .int) (t' := .int) (by decide) (by decide))))
 have KEEP := (((Keep.refl h0 [ra1, ra0]).wr W2 (Or.inl (List.mem_of_getElem? (i := 0) rfl))).wr W5 (Or.inl (List.mem_of_getElem? (i := 1) rfl)))
 exact own_leaveN X5 hlk (v := none) (fun _ => rfl) (lb rfl) (lb rfl) (by rw [e5]; exact ⟨rfl, N5, KEEP, F6, F7, F8, F9, Fw5⟩) (fun fs hr => X5.returnOut hx hret (hb hby d11_22) hr)
abbrev R10_58 : Room := { frames := 1, cells := 0, slots := 0, locals := 15 }
def Q10_58 (Z : State) (ra0 ra1 : Addr) (kc2 : ClassId) (ra3 el ee : Addr) (kee : ClassId) (h0 : Heap) (n0 : Nat) (v : Option Value) (h : Heap) (L : List Loc) : Prop := (v = some (.int 1) ∧ Fr n0 L ∧ Keep h0 h [ra0, ra1] ∧ Unt h ra0 ∧ Fld Z h ra0 cN2 "elementData" "[Ljava/lang/Object;" (.ref ra1) ∧ Fld Z h ra0 cN5 "modCount" "I" (.int 3) ∧ Fld Z h ra0 cN2 "size" "I" (.int 3) ∧ Arv Z h ra1 kc2 (.object cN1) (10 : Int32) (own_rn 3 ra3 7) .null)
theorem rm10_58 l Z a0 (hw : HW Z a0) ra0 ra1 kc2 ra3 el ee kee h0 n0 (OLD : Old Z n0 h0) (EE0 : Exa Z Z.heap el cN3) (FE0 : Fld Z Z.heap el cN3 "elements" "[Ljava/lang/Object;" (.ref ee)) (VE0 : Arv Z Z.heap ee kee (.object cN1) (0 : Int32) [] .null) (U_ra0 : Unt h0 ra0) (A' : Exa Z h0 ra0 cN2) (B' : Fld Z h0 ra0 cN2 "elementData" "[Ljava/lang/Object;" (.ref ra1)) (C' : Exa Z h0 ra1 "[Ljava/lang/Object;") (D' : Exa Z h0 ra3 cN0) (E' : Fld Z h0 ra3 cN0 "steps" "Ljava/util/List;" (.ref el)) (F' : Arv Z h0 ra1 kc2 (.object cN1) (10 : Int32) (own_rn 2 ra3 8) .null) (O_ra1 : Ovr Z kc2 cN1) (G' : Fld Z h0 ra0 cN5 "modCount" "I" (.int 2)) (H' : Fld Z h0 ra0 cN2 "size" "I" (.int 2)) (I' : n0 ≤ ra0) (ne_ra3_ra0 : ra3 ≠ ra0) (ne_ra1_ra0 : ra1 ≠ ra0) (J' : n0 ≤ ra1) :
  own_CN l Z y45 jdk_38_method_25_code 2 (some .boolean) [] R10_58 #[.ref ra0, .ref ra3] h0 (Q10_58 Z ra0 ra1 kc2 ra3 el ee kee h0 n0) := by
 refine own_entryN (plainFor_of_name pn_11) fun p e s m below meth c s₁ hx hby hml hown hnm hret hlk hZ hh X0 e0 => ?_
 have N0 := Fr.nil n0
 rw [ef_24_12 m ra0 ra3]
 refine og s₁ (mkF m 2 #[vR ra0, vR ra3] [.ref ra0, .ref ra0]) (fun _ k => qa X0 hx hby d10_0 rfl rfl rfl (XS.dup X0.here hx rfl (hb hby d10_1) rfl rfl k)) ?_
 obtain ⟨T1, X1, e1, st1⟩ := getF X0 hx hZ hown (host := "") (Or.inl (ow hw 70)) (Via.of (ow hw 71)) e0 G' (g := (mkF m 2 #[vR ra0, vR ra3] [.ref ra0, .ref ra0])) rfl rfl (hb hby d10_2)
 refine og T1 (mkF m 7 #[vR ra0, vR ra3] [.int 3, .ref ra0]) (fun _ k => st1 _ (qc X1 hx hby d10_5 rfl (qp X1 hx hby d10_6 rfl rfl k))) ?_
 obtain ⟨T2, h2, X2, e2, W2, st2⟩ := putF X1 hx hZ hown (host := "") (Or.inl (ow hw 70)) (Via.of (ow hw 71)) e1 G' A' (Or.inl (ow hw 26)) (ow hw 5) (ty := .int) (by decide) rfl rfl (g := (mkF m 7 #[vR ra0, vR ra3] [.int 3, .ref ra0])) rfl rfl (hb hby d10_7)
 have Fw2 := G'.same W2
 have N2 := Fr.snoc X2 N0 I'
 refine og T2 (mkF m 13 #[vR ra0, vR ra3] [.ref ra0, .ref ra3, .ref ra0]) (fun _ k => st2 _ (qa X2 hx hby d10_10 rfl rfl rfl (qa X2 hx hby d10_11 rfl rfl rfl (qa X2 hx hby d10_12 rfl rfl rfl k)))) ?_
 have F3 := (B'.other W2 (Or.inr (slot_ne (Or.inl (ow hw 29)) (Or.inl (ow hw 26)) (by decide) (t := (.array (.object cN1))) (t' := .int) (by decide) (by decide))))
 obtain ⟨T4, X4, e4, st4⟩ := qf X2 hx hZ hown (ow hw 28) e2 F3 (g := (mkF m 13 #[vR ra0, vR ra3] [.ref ra0, .ref ra3, .ref ra0])) rfl rfl hby d10_13
 refine og T4 (mkF m 17 #[vR ra0, vR ra3] [.ref ra0, .ref ra1, .ref ra3, .ref ra0]) (fun _ k => st4 _ (qa X4 hx hby d10_16 rfl rfl rfl k)) ?_
 have F5 := (H'.other W2 (Or.inr (slot_ne (Or.inl (ow hw 58)) (Or.inl (ow hw 26)) (by decide) (t := .int) (t' := .int) (by decide) (by decide))))
 obtain ⟨T6, X6, e6, st6⟩ := qf X4 hx hZ hown (ow hw 57) e4 F5 (g := (mkF m 17 #[vR ra0, vR ra3] [.ref ra0, .ref ra1, .ref ra3, .ref ra0])) rfl rfl hby d10_17
 refine og T6 (mkF m 20 #[vR ra0, vR ra3] [.int 2, .ref ra1, .ref ra3, .ref ra0]) st6 ?_
 have F7 := (U_ra0.wr W2)
 have F8 := (A'.wr W2)
 have F9 := (C'.wr W2)
 have F10 := (D'.wr W2)
 have F11 := (E'.other W2 (Or.inl ne_ra3_ra0))
 have F12 := (F'.other W2 ne_ra1_ra0)
 have F13 := (OLD.wr W2 I')
 obtain ⟨_, T14, L14, X14, hQ14, st14⟩ := own_pc X6 hx hZ hown (ow hw 72) (ow hw 75) (ow hw 73) (ow hw 74) F8 (rm11_59 l Z a0 hw ra0 ra1 kc2 ra3 el ee kee h2 n0 F13 EE0 FE0 VE0 F7 F8 F3 F9 F10 F11 F12 O_ra1 Fw2 F5 J' (Ne.symm ne_ra1_ra0) I') (ow hw 76) (ow hw 6) e6 (g := (mkF m 20 #[vR ra0, vR ra3] [.int 2, .ref ra1, .ref ra3, .ref ra0])) rfl (zs hml) (argsL := [.ref ra3, .ref ra1, .int 2]) (rest := []) (lenOf pd_30 rfl) rfl (hb hby d10_20) (W := 0) rfl
 obtain ⟨rfl, Nq14, K14, f15, f16, f17, f18, f19⟩ := hQ14
 have N14 := Fr.app N2 Nq14
 refine og T14 (mkF m 24 #[vR ra0, vR ra3] [.int 1]) (fun _ k => st14.trans (qc X14 hx hby d10_23 rfl k)) ?_
 have KEEP := (((Keep.refl h0 [ra0, ra1]).wr W2 (Or.inl (List.mem_of_getElem? (i := 0) rfl))).trans K14 (allS (Or.inl (List.mem_of_getElem? (i := 1) rfl)) (allS (Or.inl (List.mem_of_getElem? (i := 0) rfl)) all0)))
 exact own_leaveN X14 hlk (v := some (.int (nar .boolean (1 : Int32)))) (own_nr hret) (lb rfl) (lb rfl) (by exact ⟨rfl, N14, KEEP, f16, f17, f18, f19, f15⟩) (fun fs hr => retN X14 hx (t := .boolean) hret (by simp) (hb hby d10_24) hr)
abbrev R11_61 : Room := { frames := 0, cells := 0, slots := 0, locals := 0 }
def Q11_61 (Z : State) (ra0 ra1 : Addr) (kc2 : ClassId) (ra3 el ee : Addr) (kee : ClassId) (h0 : Heap) (n0 : Nat) (v : Option Value) (h : Heap) (L : List Loc) : Prop := (v = none ∧ Fr n0 L ∧ Keep h0 h [ra1, ra0] ∧ Arv Z h ra1 kc2 (.object cN1) (10 : Int32) (own_rn 4 ra3 6) .null ∧ Unt h ra0 ∧ Fld Z h ra0 cN2 "elementData" "[Ljava/lang/Object;" (.ref ra1) ∧ Fld Z h ra0 cN5 "modCount" "I" (.int 4) ∧ Fld Z h ra0 cN2 "size" "I" (.int 4))
theorem rm11_61 l Z a0 (hw : HW Z a0) ra0 ra1 kc2 ra3 el ee kee h0 n0 (OLD : Old Z n0 h0) (EE0 : Exa Z Z.heap el cN3) (FE0 : Fld Z Z.heap el cN3 "elements" "[Ljava/lang/Object;" (.ref ee)) (VE0 : Arv Z Z.heap ee kee (.object cN1) (0 : Int32) [] .null) (U_ra0 : Unt h0 ra0) (A' : Exa Z h0 ra0 cN2) (B' : Fld Z h0 ra0 cN2 "elementData" "[Ljava/lang/Object;" (.ref ra1)) (C' : Exa Z h0 ra1 "[Ljava/lang/Object;") (D' : Exa Z h0 ra3 cN0) (E' : Fld Z h0 ra3 cN0 "steps" "Ljava/util/List;" (.ref el)) (F' : Arv Z h0 ra1 kc2 (.object cN1) (10 : Int32) (own_rn 3 ra3 7) .null) (O_ra1 : Ovr Z kc2 cN1) (G' : Fld Z h0 ra0 cN5 "modCount" "I" (.int 4)) (H' : Fld Z h0 ra0 cN2 "size" "I" (.int 3)) (I' : n0 ≤ ra1) (ne_ra0_ra1 : ra0 ≠ ra1) (J' : n0 ≤ ra0) :
  own_CN l Z y44 jdk_38_method_24_code 4 none [] R11_61 #[.ref ra0, .ref ra3, .ref ra1, .int 3] h0 (Q11_61 Z ra0 ra1 kc2 ra3 el ee kee h0 n0) := by
 refine own_entryN (plainFor_of_name pn_11) fun p e s m below meth c s₁ hx hby hml hown hnm hret hlk hZ hh X0 e0 => ?_
 have N0 := Fr.nil n0
 rw [ef_11_61 m ra0 ra3 ra1]
 refine og s₁ (mkF m 2 #[vR ra0, vR ra3, vR ra1, vI 3] [.ref ra1, .int 3]) (fun _ k => qi X0 hx hby d11_0 rfl rfl (qa X0 hx hby d11_1 rfl rfl rfl k)) ?_
 obtain ⟨cl1, Ar1, -, Sr1, Nr1, -, -⟩ := id F'
 refine og s₁ (mkF m 3 #[vR ra0, vR ra3, vR ra1, vI 3] [.int 10, .int 3]) (fun t k => X0.arraylength hx (by rw [e0]; exact Ar1.1) (State.isArrayOf_alike hZ.alike Ar1.2.1) (g := (mkF m 2 #[vR ra0, vR ra3, vR ra1, vI 3] [.ref ra1, .int 3])) rfl rfl (hb hby d11_2) t (by rw [len_of Sr1 Nr1]; exact k)) ?_
 refine og s₁ (mkF m 14 #[vR ra0, vR ra3, vR ra1, vI 3] [.ref ra3, .int 3, .ref ra1]) (fun _ k => XS.icmpYes X0.here hx rfl (pc0 := 3) (pc' := 11) rfl (hb hby d11_3) rfl (feq (by decide : ¬ ((3 : Int32) = (10 : Int32)))).2 (by decide) (by decide) (qa X0 hx hby d11_11 rfl rfl rfl (qi X0 hx hby d11_12 rfl rfl (qa X0 hx hby d11_13 rfl rfl rfl k)))) ?_
 obtain ⟨cl2, Ar2, qr2, Sr2, Nr2, Hr2, Gr2⟩ := id F'
 obtain ⟨T2, h2, X2, e2, W2, st2⟩ := stR X0 hx hZ e0 Ar2 (j := (3 : Int32)) (inb_of Sr2 ⟨by decide, by decide⟩) rfl (Sto.ofV Ar2 qr2 O_ra1 (Ins.of_exa D' (ow hw 93))) (g := (mkF m 14 #[vR ra0, vR ra3, vR ra1, vI 3] [.ref ra3, .int 3, .ref ra1])) rfl rfl (hb hby d11_14)
 have V2 : Arv Z h2 ra1 kc2 (.object cN1) (10 : Int32) (own_rn 4 ra3 6) .null := Arv.set Ar2 qr2 Sr2 Nr2 Hr2 Gr2 rfl W2 3 rfl (lb rfl)
 have N2 := Fr.snoc X2 N0 I'
 refine og T2 (mkF m 19 #[vR ra0, vR ra3, vR ra1, vI 3] [.int 4, .ref ra0]) (fun _ k => st2 _ (qa X2 hx hby d11_15 rfl rfl rfl (qi X2 hx hby d11_16 rfl rfl (qc X2 hx hby d11_17 rfl (qp X2 hx hby d11_18 rfl rfl k))))) ?_
 have F3 := (A'.wr W2)
 have F4 := (H'.other W2 (Or.inl ne_ra0_ra1))
 obtain ⟨T5, h5, X5, e5, W5, st5⟩ := putF X2 hx hZ hown (host := "") (Or.inl (ow hw 57)) Via.refl e2 F4 F3 (Or.inl (ow hw 58)) (ow hw 5) (ty := .int) (by decide) rfl rfl (g := (mkF m 19 #[vR ra0, vR ra3, vR ra1, vI 3] [.int 4, .ref ra0])) rfl rfl (hb hby d11_19)
 have Fw5 := F4.same W5
 have N5 := Fr.snoc X5 N2 J'
 refine og T5 (mkF m 22 #[vR ra0, vR ra3, vR ra1, vI 3] []) st5 ?_
 have F6 := (V2.other W5 (Ne.symm ne_ra0_ra1))
 have F7 := ((U_ra0.wr W2).wr W5)
 have F8 := ((B'.other W2 (Or.inl ne_ra0_ra1)).other W5 (Or.inr (slot_ne (Or.inl (ow hw 29)) (Or.inl (ow hw 58)) (by decide) (t := (.array (.object cN1))) (t' := .int) (by decide) (by decide))))
 have F9 := ((G'.other W2 (Or.inl ne_ra0_ra1)).other W5 (Or.inr (slot_ne (Or.inl (ow hw 26)) (Or.inl (ow hw 58)) (by decide) (t := .int) (t' := .int) (by decide) (by decide))))
 have KEEP := (((Keep.refl h0 [ra1, ra0]).wr W2 (Or.inl (List.mem_of_getElem? (i := 0) rfl))).wr W5 (Or.inl (List.mem_of_getElem? (i := 1) rfl)))
 exact own_leaveN X5 hlk (v := none) (fun _ => rfl) (lb rfl) (lb rfl) (by rw [e5]; exact ⟨rfl, N5, KEEP, F6, F7, F8, F9, Fw5⟩) (fun fs hr => X5.returnOut hx hret (hb hby d11_22) hr)
abbrev R10_60 : Room := { frames := 1, cells := 0, slots := 0, locals := 15 }
def Q10_60 (Z : State) (ra0 ra1 : Addr) (kc2 : ClassId) (ra3 el ee : Addr) (kee : ClassId) (h0 : Heap) (n0 : Nat) (v : Option Value) (h : Heap) (L : List Loc) : Prop := (v = some (.int 1) ∧ Fr n0 L ∧ Keep h0 h [ra0, ra1] ∧ Unt h ra0 ∧ Fld Z h ra0 cN2 "elementData" "[Ljava/lang/Object;" (.ref ra1) ∧ Fld Z h ra0 cN5 "modCount" "I" (.int 4) ∧ Fld Z h ra0 cN2 "size" "I" (.int 4) ∧ Arv Z h ra1 kc2 (.object cN1) (10 : Int32) (own_rn 4 ra3 6) .null)
theorem rm10_60 l Z a0 (hw : HW Z a0) ra0 ra1 kc2 ra3 el ee kee h0 n0 (OLD : Old Z n0 h0) (EE0 : Exa Z Z.heap el cN3) (FE0 : Fld Z Z.heap el cN3 "elements" "[Ljava/lang/Object;" (.ref ee)) (VE0 : Arv Z Z.heap ee kee (.object cN1) (0 : Int32) [] .null) (U_ra0 : Unt h0 ra0) (A' : Exa Z h0 ra0 cN2) (B' : Fld Z h0 ra0 cN2 "elementData" "[Ljava/lang/Object;" (.ref ra1)) (C' : Exa Z h0 ra1 "[Ljava/lang/Object;") (D' : Exa Z h0 ra3 cN0) (E' : Fld Z h0 ra3 cN0 "steps" "Ljava/util/List;" (.ref el)) (F' : Arv Z h0 ra1 kc2 (.object cN1) (10 : Int32) (own_rn 3 ra3 7) .null) (O_ra1 : Ovr Z kc2 cN1) (G' : Fld Z h0 ra0 cN5 "modCount" "I" (.int 3)) (H' : Fld Z h0 ra0 cN2 "size" "I" (.int 3)) (I' : n0 ≤ ra0) (ne_ra3_ra0 : ra3 ≠ ra0) (ne_ra1_ra0 : ra1 ≠ ra0) (J' : n0 ≤ ra1) :
  own_CN l Z y45 jdk_38_method_25_code 2 (some .boolean) [] R10_60 #[.ref ra0, .ref ra3] h0 (Q10_60 Z ra0 ra1 kc2 ra3 el ee kee h0 n0) := by
 refine own_entryN (plainFor_of_name pn_11) fun p e s m below meth c s₁ hx hby hml hown hnm hret hlk hZ hh X0 e0 => ?_
 have N0 := Fr.nil n0
 rw [ef_24_12 m ra0 ra3]
 refine og s₁ (mkF m 2 #[vR ra0, vR ra3] [.ref ra0, .ref ra0]) (fun _ k => qa X0 hx hby d10_0 rfl rfl rfl (XS.dup X0.here hx rfl (hb hby d10_1) rfl rfl k)) ?_
 obtain ⟨T1, X1, e1, st1⟩ := getF X0 hx hZ hown (host := "") (Or.inl (ow hw 70)) (Via.of (ow hw 71)) e0 G' (g := (mkF m 2 #[vR ra0, vR ra3] [.ref ra0, .ref ra0])) rfl rfl (hb hby d10_2)
 refine og T1 (mkF m 7 #[vR ra0, vR ra3] [.int 4, .ref ra0]) (fun _ k => st1 _ (qc X1 hx hby d10_5 rfl (qp X1 hx hby d10_6 rfl rfl k))) ?_
 obtain ⟨T2, h2, X2, e2, W2, st2⟩ := putF X1 hx hZ hown (host := "") (Or.inl (ow hw 70)) (Via.of (ow hw 71)) e1 G' A' (Or.inl (ow hw 26)) (ow hw 5) (ty := .int) (by decide) rfl rfl (g := (mkF m 7 #[vR ra0, vR ra3] [.int 4, .ref ra0])) rfl rfl (hb hby d10_7)
 have Fw2 := G'.same W2
 have N2 := Fr.snoc X2 N0 I'
 refine og T2 (mkF m 13 #[vR ra0, vR ra3] [.ref ra0, .ref ra3, .ref ra0]) (fun _ k => st2 _ (qa X2 hx hby d10_10 rfl rfl rfl (qa X2 hx hby d10_11 rfl rfl rfl (qa X2 hx hby d10_12 rfl rfl rfl k)))) ?_
 have F3 := (B'.other W2 (Or.inr (slot_ne (Or.inl (ow hw 29)) (Or.inl (ow hw 26)) (by decide) (t := (.array (.object cN1))) (t' := .int) (by decide) (by decide))))
 obtain ⟨T4, X4, e4, st4⟩ := qf X2 hx hZ hown (ow hw 28) e2 F3 (g := (mkF m 13 #[vR ra0, vR ra3] [.ref ra0, .ref ra3, .ref ra0])) rfl rfl hby d10_13
 refine og T4 (mkF m 17 #[vR ra0, vR ra3] [.ref ra0, .ref ra1, .ref ra3, .ref ra0]) (fun _ k => st4 _ (qa X4 hx hby d10_16 rfl rfl rfl k)) ?_
 have F5 := (H'.other W2 (Or.inr (slot_ne (Or.inl (ow hw 58)) (Or.inl (ow hw 26)) (by decide) (t := .int) (t' := .int) (by decide) (by decide))))
 obtain ⟨T6, X6, e6, st6⟩ := qf X4 hx hZ hown (ow hw 57) e4 F5 (g := (mkF m 17 #[vR ra0, vR ra3] [.ref ra0, .ref ra1, .ref ra3, .ref ra0])) rfl rfl hby d10_17
 refine og T6 (mkF m 20 #[vR ra0, vR ra3] [.int 3, .ref ra1, .ref ra3, .ref ra0]) st6 ?_
 have F7 := (U_ra0.wr W2)
 have F8 := (A'.wr W2)
 have F9 := (C'.wr W2)
 have F10 := (D'.wr W2)
 have F11 := (E'.other W2 (Or.inl ne_ra3_ra0))
 have F12 := (F'.other W2 ne_ra1_ra0)
 have F13 := (OLD.wr W2 I')
 obtain ⟨_, T14, L14, X14, hQ14, st14⟩ := own_pc X6 hx hZ hown (ow hw 72) (ow hw 75) (ow hw 73) (ow hw 74) F8 (rm11_61 l Z a0 hw ra0 ra1 kc2 ra3 el ee kee h2 n0 F13 EE0 FE0 VE0 F7 F8 F3 F9 F10 F11 F12 O_ra1 Fw2 F5 J' (Ne.symm ne_ra1_ra0) I') (ow hw 76) (ow hw 6) e6 (g := (mkF m 20 #[vR ra0, vR ra3] [.int 3, .ref ra1, .ref ra3, .ref ra0])) rfl (zs hml) (argsL := [.ref ra3, .ref ra1, .int 3]) (rest := []) (lenOf pd_30 rfl) rfl (hb hby d10_20) (W := 0) rfl
 obtain ⟨rfl, Nq14, K14, f15, f16, f17, f18, f19⟩ := hQ14
 have N14 := Fr.app N2 Nq14
 refine og T14 (mkF m 24 #[vR ra0, vR ra3] [.int 1]) (fun _ k => st14.trans (qc X14 hx hby d10_23 rfl k)) ?_
 have KEEP := (((Keep.refl h0 [ra0, ra1]).wr W2 (Or.inl (List.mem_of_getElem? (i := 0) rfl))).trans K14 (allS (Or.inl (List.mem_of_getElem? (i := 1) rfl)) (allS (Or.inl (List.mem_of_getElem? (i := 0) rfl)) all0)))
 exact own_leaveN X14 hlk (v := some (.int (nar .boolean (1 : Int32)))) (own_nr hret) (lb rfl) (lb rfl) (by exact ⟨rfl, N14, KEEP, f16, f17, f18, f19, f15⟩) (fun fs hr => retN X14 hx (t := .boolean) hret (by simp) (hb hby d10_24) hr)
abbrev R11_63 : Room := { frames := 0, cells := 0, slots := 0, locals := 0 }
def Q11_63 (Z : State) (ra0 ra1 : Addr) (kc2 : ClassId) (ra3 el ee : Addr) (kee : ClassId) (h0 : Heap) (n0 : Nat) (v : Option Value) (h : Heap) (L : List Loc) : Prop := (v = none ∧ Fr n0 L ∧ Keep h0 h [ra1, ra0] ∧ Arv Z h ra1 kc2 (.object cN1) (10 : Int32) (own_rn 5 ra3 5) .null ∧ Unt h ra0 ∧ Fld Z h ra0 cN2 "elementData" "[Ljava/lang/Object;" (.ref ra1) ∧ Fld Z h ra0 cN5 "modCount" "I" (.int 5) ∧ Fld Z h ra0 cN2 "size" "I" (.int 5))
theorem rm11_63 l Z a0 (hw : HW Z a0) ra0 ra1 kc2 ra3 el ee kee h0 n0 (OLD : Old Z n0 h0) (EE0 : Exa Z Z.heap el cN3) (FE0 : Fld Z Z.heap el cN3 "elements" "[Ljava/lang/Object;" (.ref ee)) (VE0 : Arv Z Z.heap ee kee (.object cN1) (0 : Int32) [] .null) (U_ra0 : Unt h0 ra0) (A' : Exa Z h0 ra0 cN2) (B' : Fld Z h0 ra0 cN2 "elementData" "[Ljava/lang/Object;" (.ref ra1)) (C' : Exa Z h0 ra1 "[Ljava/lang/Object;") (D' : Exa Z h0 ra3 cN0) (E' : Fld Z h0 ra3 cN0 "steps" "Ljava/util/List;" (.ref el)) (F' : Arv Z h0 ra1 kc2 (.object cN1) (10 : Int32) (own_rn 4 ra3 6) .null) (O_ra1 : Ovr Z kc2 cN1) (G' : Fld Z h0 ra0 cN5 "modCount" "I" (.int 5)) (H' : Fld Z h0 ra0 cN2 "size" "I" (.int 4)) (I' : n0 ≤ ra1) (ne_ra0_ra1 : ra0 ≠ ra1) (J' : n0 ≤ ra0) :
  own_CN l Z y44 jdk_38_method_24_code 4 none [] R11_63 #[.ref ra0, .ref ra3, .ref ra1, .int 4] h0 (Q11_63 Z ra0 ra1 kc2 ra3 el ee kee h0 n0) := by
 refine own_entryN (plainFor_of_name pn_11) fun p e s m below meth c s₁ hx hby hml hown hnm hret hlk hZ hh X0 e0 => ?_
 have N0 := Fr.nil n0
 rw [ef_11_63 m ra0 ra3 ra1]
 refine og s₁ (mkF m 2 #[vR ra0, vR ra3, vR ra1, vI 4] [.ref ra1, .int 4]) (fun _ k => qi X0 hx hby d11_0 rfl rfl (qa X0 hx hby d11_1 rfl rfl rfl k)) ?_
 obtain ⟨cl1, Ar1, -, Sr1, Nr1, -, -⟩ := id F'
 refine og s₁ (mkF m 3 #[vR ra0, vR ra3, vR ra1, vI 4] [.int 10, .int 4]) (fun t k => X0.arraylength hx (by rw [e0]; exact Ar1.1) (State.isArrayOf_alike hZ.alike Ar1.2.1) (g := (mkF m 2 #[vR ra0, vR ra3, vR ra1, vI 4] [.ref ra1, .int 4])) rfl rfl (hb hby d11_2) t (by rw [len_of Sr1 Nr1]; exact k)) ?_
 refine og s₁ (mkF m 14 #[vR ra0, vR ra3, vR ra1, vI 4] [.ref ra3, .int 4, .ref ra1]) (fun _ k => XS.icmpYes X0.here hx rfl (pc0 := 3) (pc' := 11) rfl (hb hby d11_3) rfl (feq (by decide : ¬ ((4 : Int32) = (10 : Int32)))).2 (by decide) (by decide) (qa X0 hx hby d11_11 rfl rfl rfl (qi X0 hx hby d11_12 rfl rfl (qa X0 hx hby d11_13 rfl rfl rfl k)))) ?_
 obtain ⟨cl2, Ar2, qr2, Sr2, Nr2, Hr2, Gr2⟩ := id F'
 obtain ⟨T2, h2, X2, e2, W2, st2⟩ := stR X0 hx hZ e0 Ar2 (j := (4 : Int32)) (inb_of Sr2 ⟨by decide, by decide⟩) rfl (Sto.ofV Ar2 qr2 O_ra1 (Ins.of_exa D' (ow hw 93))) (g := (mkF m 14 #[vR ra0, vR ra3, vR ra1, vI 4] [.ref ra3, .int 4, .ref ra1])) rfl rfl (hb hby d11_14)
 have V2 : Arv Z h2 ra1 kc2 (.object cN1) (10 : Int32) (own_rn 5 ra3 5) .null := Arv.set Ar2 qr2 Sr2 Nr2 Hr2 Gr2 rfl W2 4 rfl (lb rfl)
 have N2 := Fr.snoc X2 N0 I'
 refine og T2 (mkF m 19 #[vR ra0, vR ra3, vR ra1, vI 4] [.int 5, .ref ra0]) (fun _ k => st2 _ (qa X2 hx hby d11_15 rfl rfl rfl (qi X2 hx hby d11_16 rfl rfl (qc X2 hx hby d11_17 rfl (qp X2 hx hby d11_18 rfl rfl k))))) ?_
 have F3 := (A'.wr W2)
 have F4 := (H'.other W2 (Or.inl ne_ra0_ra1))
 obtain ⟨T5, h5, X5, e5, W5, st5⟩ := putF X2 hx hZ hown (host := "") (Or.inl (ow hw 57)) Via.refl e2 F4 F3 (Or.inl (ow hw 58)) (ow hw 5) (ty := .int) (by decide) rfl rfl (g := (mkF m 19 #[vR ra0, vR ra3, vR ra1, vI 4] [.int 5, .ref ra0])) rfl rfl (hb hby d11_19)
 have Fw5 := F4.same W5
 have N5 := Fr.snoc X5 N2 J'
 refine og T5 (mkF m 22 #[vR ra0, vR ra3, vR ra1, vI 4] []) st5 ?_
 have F6 := (V2.other W5 (Ne.symm ne_ra0_ra1))
 have F7 := ((U_ra0.wr W2).wr W5)
 have F8 := ((B'.other W2 (Or.inl ne_ra0_ra1)).other W5 (Or.inr (slot_ne (Or.inl (ow hw 29)) (Or.inl (ow hw 58)) (by decide) (t := (.array (.object cN1))) (t' := .int) (by decide) (by decide))))
 have F9 := ((G'.other W2 (Or.inl ne_ra0_ra1)).other W5 (Or.inr (slot_ne (Or.inl (ow hw 26)) (Or.inl (ow hw 58)) (by decide) (t := .int) (t' := .int) (by decide) (by decide))))
 have KEEP := (((Keep.refl h0 [ra1, ra0]).wr W2 (Or.inl (List.mem_of_getElem? (i := 0) rfl))).wr W5 (Or.inl (List.mem_of_getElem? (i := 1) rfl)))
 exact own_leaveN X5 hlk (v := none) (fun _ => rfl) (lb rfl) (lb rfl) (by rw [e5]; exact ⟨rfl, N5, KEEP, F6, F7, F8, F9, Fw5⟩) (fun fs hr => X5.returnOut hx hret (hb hby d11_22) hr)
abbrev R10_62 : Room := { frames := 1, cells := 0, slots := 0, locals := 15 }
def Q10_62 (Z : State) (ra0 ra1 : Addr) (kc2 : ClassId) (ra3 el ee : Addr) (kee : ClassId) (h0 : Heap) (n0 : Nat) (v : Option Value) (h : Heap) (L : List Loc) : Prop := (v = some (.int 1) ∧ Fr n0 L ∧ Keep h0 h [ra0, ra1] ∧ Unt h ra0 ∧ Fld Z h ra0 cN2 "elementData" "[Ljava/lang/Object;" (.ref ra1) ∧ Fld Z h ra0 cN5 "modCount" "I" (.int 5) ∧ Fld Z h ra0 cN2 "size" "I" (.int 5) ∧ Arv Z h ra1 kc2 (.object cN1) (10 : Int32) (own_rn 5 ra3 5) .null)
theorem rm10_62 l Z a0 (hw : HW Z a0) ra0 ra1 kc2 ra3 el ee kee h0 n0 (OLD : Old Z n0 h0) (EE0 : Exa Z Z.heap el cN3) (FE0 : Fld Z Z.heap el cN3 "elements" "[Ljava/lang/Object;" (.ref ee)) (VE0 : Arv Z Z.heap ee kee (.object cN1) (0 : Int32) [] .null) (U_ra0 : Unt h0 ra0) (A' : Exa Z h0 ra0 cN2) (B' : Fld Z h0 ra0 cN2 "elementData" "[Ljava/lang/Object;" (.ref ra1)) (C' : Exa Z h0 ra1 "[Ljava/lang/Object;") (D' : Exa Z h0 ra3 cN0) (E' : Fld Z h0 ra3 cN0 "steps" "Ljava/util/List;" (.ref el)) (F' : Arv Z h0 ra1 kc2 (.object cN1) (10 : Int32) (own_rn 4 ra3 6) .null) (O_ra1 : Ovr Z kc2 cN1) (G' : Fld Z h0 ra0 cN5 "modCount" "I" (.int 4)) (H' : Fld Z h0 ra0 cN2 "size" "I" (.int 4)) (I' : n0 ≤ ra0) (ne_ra3_ra0 : ra3 ≠ ra0) (ne_ra1_ra0 : ra1 ≠ ra0) (J' : n0 ≤ ra1) :
  own_CN l Z y45 jdk_38_method_25_code 2 (some .boolean) [] R10_62 #[.ref ra0, .ref ra3] h0 (Q10_62 Z ra0 ra1 kc2 ra3 el ee kee h0 n0) := by
 refine own_entryN (plainFor_of_name pn_11) fun p e s m below meth c s₁ hx hby hml hown hnm hret hlk hZ hh X0 e0 => ?_
 have N0 := Fr.nil n0
 rw [ef_24_12 m ra0 ra3]
 refine og s₁ (mkF m 2 #[vR ra0, vR ra3] [.ref ra0, .ref ra0]) (fun _ k => qa X0 hx hby d10_0 rfl rfl rfl (XS.dup X0.here hx rfl (hb hby d10_1) rfl rfl k)) ?_
 obtain ⟨T1, X1, e1, st1⟩ := getF X0 hx hZ hown (host := "") (Or.inl (ow hw 70)) (Via.of (ow hw 71)) e0 G' (g := (mkF m 2 #[vR ra0, vR ra3] [.ref ra0, .ref ra0])) rfl rfl (hb hby d10_2)
 refine og T1 (mkF m 7 #[vR ra0, vR ra3] [.int 5, .ref ra0]) (fun _ k => st1 _ (qc X1 hx hby d10_5 rfl (qp X1 hx hby d10_6 rfl rfl k))) ?_
 obtain ⟨T2, h2, X2, e2, W2, st2⟩ := putF X1 hx hZ hown (host := "") (Or.inl (ow hw 70)) (Via.of (ow hw 71)) e1 G' A' (Or.inl (ow hw 26)) (ow hw 5) (ty := .int) (by decide) rfl rfl (g := (mkF m 7 #[vR ra0, vR ra3] [.int 5, .ref ra0])) rfl rfl (hb hby d10_7)
 have Fw2 := G'.same W2
 have N2 := Fr.snoc X2 N0 I'
 refine og T2 (mkF m 13 #[vR ra0, vR ra3] [.ref ra0, .ref ra3, .ref ra0]) (fun _ k => st2 _ (qa X2 hx hby d10_10 rfl rfl rfl (qa X2 hx hby d10_11 rfl rfl rfl (qa X2 hx hby d10_12 rfl rfl rfl k)))) ?_
 have F3 := (B'.other W2 (Or.inr (slot_ne (Or.inl (ow hw 29)) (Or.inl (ow hw 26)) (by decide) (t := (.array (.object cN1))) (t' := .int) (by decide) (by decide))))
 obtain ⟨T4, X4, e4, st4⟩ := qf X2 hx hZ hown (ow hw 28) e2 F3 (g := (mkF m 13 #[vR ra0, vR ra3] [.ref ra0, .ref ra3, .ref ra0])) rfl rfl hby d10_13
 refine og T4 (mkF m 17 #[vR ra0, vR ra3] [.ref ra0, .ref ra1, .ref ra3, .ref ra0]) (fun _ k => st4 _ (qa X4 hx hby d10_16 rfl rfl rfl k)) ?_
 have F5 := (H'.other W2 (Or.inr (slot_ne (Or.inl (ow hw 58)) (Or.inl (ow hw 26)) (by decide) (t := .int) (t' := .int) (by decide) (by decide))))
 obtain ⟨T6, X6, e6, st6⟩ := qf X4 hx hZ hown (ow hw 57) e4 F5 (g := (mkF m 17 #[vR ra0, vR ra3] [.ref ra0, .ref ra1, .ref ra3, .ref ra0])) rfl rfl hby d10_17
 refine og T6 (mkF m 20 #[vR ra0, vR ra3] [.int 4, .ref ra1, .ref ra3, .ref ra0]) st6 ?_
 have F7 := (U_ra0.wr W2)
 have F8 := (A'.wr W2)
 have F9 := (C'.wr W2)
 have F10 := (D'.wr W2)
 have F11 := (E'.other W2 (Or.inl ne_ra3_ra0))
 have F12 := (F'.other W2 ne_ra1_ra0)
 have F13 := (OLD.wr W2 I')
 obtain ⟨_, T14, L14, X14, hQ14, st14⟩ := own_pc X6 hx hZ hown (ow hw 72) (ow hw 75) (ow hw 73) (ow hw 74) F8 (rm11_63 l Z a0 hw ra0 ra1 kc2 ra3 el ee kee h2 n0 F13 EE0 FE0 VE0 F7 F8 F3 F9 F10 F11 F12 O_ra1 Fw2 F5 J' (Ne.symm ne_ra1_ra0) I') (ow hw 76) (ow hw 6) e6 (g := (mkF m 20 #[vR ra0, vR ra3] [.int 4, .ref ra1, .ref ra3, .ref ra0])) rfl (zs hml) (argsL := [.ref ra3, .ref ra1, .int 4]) (rest := []) (lenOf pd_30 rfl) rfl (hb hby d10_20) (W := 0) rfl
 obtain ⟨rfl, Nq14, K14, f15, f16, f17, f18, f19⟩ := hQ14
 have N14 := Fr.app N2 Nq14
 refine og T14 (mkF m 24 #[vR ra0, vR ra3] [.int 1]) (fun _ k => st14.trans (qc X14 hx hby d10_23 rfl k)) ?_
 have KEEP := (((Keep.refl h0 [ra0, ra1]).wr W2 (Or.inl (List.mem_of_getElem? (i := 0) rfl))).trans K14 (allS (Or.inl (List.mem_of_getElem? (i := 1) rfl)) (allS (Or.inl (List.mem_of_getElem? (i := 0) rfl)) all0)))
 exact own_leaveN X14 hlk (v := some (.int (nar .boolean (1 : Int32)))) (own_nr hret) (lb rfl) (lb rfl) (by exact ⟨rfl, N14, KEEP, f16, f17, f18, f19, f15⟩) (fun fs hr => retN X14 hx (t := .boolean) hret (by simp) (hb hby d10_24) hr)
abbrev R11_65 : Room := { frames := 0, cells := 0, slots := 0, locals := 0 }
def Q11_65 (Z : State) (ra0 ra1 : Addr) (kc2 : ClassId) (ra3 el ee : Addr) (kee : ClassId) (h0 : Heap) (n0 : Nat) (v : Option Value) (h : Heap) (L : List Loc) : Prop := (v = none ∧ Fr n0 L ∧ Keep h0 h [ra1, ra0] ∧ Arv Z h ra1 kc2 (.object cN1) (10 : Int32) (own_rn 6 ra3 4) .null ∧ Unt h ra0 ∧ Fld Z h ra0 cN2 "elementData" "[Ljava/lang/Object;" (.ref ra1) ∧ Fld Z h ra0 cN5 "modCount" "I" (.int 6) ∧ Fld Z h ra0 cN2 "size" "I" (.int 6))
theorem rm11_65 l Z a0 (hw : HW Z a0) ra0 ra1 kc2 ra3 el ee kee h0 n0 (OLD : Old Z n0 h0) (EE0 : Exa Z Z.heap el cN3) (FE0 : Fld Z Z.heap el cN3 "elements" "[Ljava/lang/Object;" (.ref ee)) (VE0 : Arv Z Z.heap ee kee (.object cN1) (0 : Int32) [] .null) (U_ra0 : Unt h0 ra0) (A' : Exa Z h0 ra0 cN2) (B' : Fld Z h0 ra0 cN2 "elementData" "[Ljava/lang/Object;" (.ref ra1)) (C' : Exa Z h0 ra1 "[Ljava/lang/Object;") (D' : Exa Z h0 ra3 cN0) (E' : Fld Z h0 ra3 cN0 "steps" "Ljava/util/List;" (.ref el)) (F' : Arv Z h0 ra1 kc2 (.object cN1) (10 : Int32) (own_rn 5 ra3 5) .null) (O_ra1 : Ovr Z kc2 cN1) (G' : Fld Z h0 ra0 cN5 "modCount" "I" (.int 6)) (H' : Fld Z h0 ra0 cN2 "size" "I" (.int 5)) (I' : n0 ≤ ra1) (ne_ra0_ra1 : ra0 ≠ ra1) (J' : n0 ≤ ra0) :
  own_CN l Z y44 jdk_38_method_24_code 4 none [] R11_65 #[.ref ra0, .ref ra3, .ref ra1, .int 5] h0 (Q11_65 Z ra0 ra1 kc2 ra3 el ee kee h0 n0) := by
 refine own_entryN (plainFor_of_name pn_11) fun p e s m below meth c s₁ hx hby hml hown hnm hret hlk hZ hh X0 e0 => ?_
 have N0 := Fr.nil n0
 rw [ef_11_65 m ra0 ra3 ra1]
 refine og s₁ (mkF m 2 #[vR ra0, vR ra3, vR ra1, vI 5] [.ref ra1, .int 5]) (fun _ k => qi X0 hx hby d11_0 rfl rfl (qa X0 hx hby d11_1 rfl rfl rfl k)) ?_
 obtain ⟨cl1, Ar1, -, Sr1, Nr1, -, -⟩ := id F'
 refine og s₁ (mkF m 3 #[vR ra0, vR ra3, vR ra1, vI 5] [.int 10, .int 5]) (fun t k => X0.arraylength hx (by rw [e0]; exact Ar1.1) (State.isArrayOf_alike hZ.alike Ar1.2.1) (g := (mkF m 2 #[vR ra0, vR ra3, vR ra1, vI 5] [.ref ra1, .int 5])) rfl rfl (hb hby d11_2) t (by rw [len_of Sr1 Nr1]; exact k)) ?_
 refine og s₁ (mkF m 14 #[vR ra0, vR ra3, vR ra1, vI 5] [.ref ra3, .int 5, .ref ra1]) (fun _ k => XS.icmpYes X0.here hx rfl (pc0 := 3) (pc' := 11) rfl (hb hby d11_3) rfl (feq (by decide : ¬ ((5 : Int32) = (10 : Int32)))).2 (by decide) (by decide) (qa X0 hx hby d11_11 rfl rfl rfl (qi X0 hx hby d11_12 rfl rfl (qa X0 hx hby d11_13 rfl rfl rfl k)))) ?_
 obtain ⟨cl2, Ar2, qr2, Sr2, Nr2, Hr2, Gr2⟩ := id F'
 obtain ⟨T2, h2, X2, e2, W2, st2⟩ := stR X0 hx hZ e0 Ar2 (j := (5 : Int32)) (inb_of Sr2 ⟨by decide, by decide⟩) rfl (Sto.ofV Ar2 qr2 O_ra1 (Ins.of_exa D' (ow hw 93))) (g := (mkF m 14 #[vR ra0, vR ra3, vR ra1, vI 5] [.ref ra3, .int 5, .ref ra1])) rfl rfl (hb hby d11_14)
 have V2 : Arv Z h2 ra1 kc2 (.object cN1) (10 : Int32) (own_rn 6 ra3 4) .null := Arv.set Ar2 qr2 Sr2 Nr2 Hr2 Gr2 rfl W2 5 rfl (lb rfl)
 have N2 := Fr.snoc X2 N0 I'
 refine og T2 (mkF m 19 #[vR ra0, vR ra3, vR ra1, vI 5] [.int 6, .ref ra0]) (fun _ k => st2 _ (qa X2 hx hby d11_15 rfl rfl rfl (qi X2 hx hby d11_16 rfl rfl (qc X2 hx hby d11_17 rfl (qp X2 hx hby d11_18 rfl rfl k))))) ?_
 have F3 := (A'.wr W2)
 have F4 := (H'.other W2 (Or.inl ne_ra0_ra1))
 obtain ⟨T5, h5, X5, e5, W5, st5⟩ := putF X2 hx hZ hown (host := "") (Or.inl (ow hw 57)) Via.refl e2 F4 F3 (Or.inl (ow hw 58)) (ow hw 5) (ty := .int) (by decide) rfl rfl (g := (mkF m 19 #[vR ra0, vR ra3, vR ra1, vI 5] [.int 6, .ref ra0])) rfl rfl (hb hby d11_19)
 have Fw5 := F4.same W5
 have N5 := Fr.snoc X5 N2 J'
 refine og T5 (mkF m 22 #[vR ra0, vR ra3, vR ra1, vI 5] []) st5 ?_
 have F6 := (V2.other W5 (Ne.symm ne_ra0_ra1))
 have F7 := ((U_ra0.wr W2).wr W5)
 have F8 := ((B'.other W2 (Or.inl ne_ra0_ra1)).other W5 (Or.inr (slot_ne (Or.inl (ow hw 29)) (Or.inl (ow hw 58)) (by decide) (t := (.array (.object cN1))) (t' := .int) (by decide) (by decide))))
 have F9 := ((G'.other W2 (Or.inl ne_ra0_ra1)).other W5 (Or.inr (slot_ne (Or.inl (ow hw 26)) (Or.inl (ow hw 58)) (by decide) (t := .int) (t' := .int) (by decide) (by decide))))
 have KEEP := (((Keep.refl h0 [ra1, ra0]).wr W2 (Or.inl (List.mem_of_getElem? (i := 0) rfl))).wr W5 (Or.inl (List.mem_of_getElem? (i := 1) rfl)))
 exact own_leaveN X5 hlk (v := none) (fun _ => rfl) (lb rfl) (lb rfl) (by rw [e5]; exact ⟨rfl, N5, KEEP, F6, F7, F8, F9, Fw5⟩) (fun fs hr => X5.returnOut hx hret (hb hby d11_22) hr)
abbrev R10_64 : Room := { frames := 1, cells := 0, slots := 0, locals := 15 }
def Q10_64 (Z : State) (ra0 ra1 : Addr) (kc2 : ClassId) (ra3 el ee : Addr) (kee : ClassId) (h0 : Heap) (n0 : Nat) (v : Option Value) (h : Heap) (L : List Loc) : Prop := (v = some (.int 1) ∧ Fr n0 L ∧ Keep h0 h [ra0, ra1] ∧ Unt h ra0 ∧ Fld Z h ra0 cN2 "elementData" "[Ljava/lang/Object;" (.ref ra1) ∧ Fld Z h ra0 cN5 "modCount" "I" (.int 6) ∧ Fld Z h ra0 cN2 "size" "I" (.int 6) ∧ Arv Z h ra1 kc2 (.object cN1) (10 : Int32) (own_rn 6 ra3 4) .null)
theorem rm10_64 l Z a0 (hw : HW Z a0) ra0 ra1 kc2 ra3 el ee kee h0 n0 (OLD : Old Z n0 h0) (EE0 : Exa Z Z.heap el cN3) (FE0 : Fld Z Z.heap el cN3 "elements" "[Ljava/lang/Object;" (.ref ee)) (VE0 : Arv Z Z.heap ee kee (.object cN1) (0 : Int32) [] .null) (U_ra0 : Unt h0 ra0) (A' : Exa Z h0 ra0 cN2) (B' : Fld Z h0 ra0 cN2 "elementData" "[Ljava/lang/Object;" (.ref ra1)) (C' : Exa Z h0 ra1 "[Ljava/lang/Object;") (D' : Exa Z h0 ra3 cN0) (E' : Fld Z h0 ra3 cN0 "steps" "Ljava/util/List;" (.ref el)) (F' : Arv Z h0 ra1 kc2 (.object cN1) (10 : Int32) (own_rn 5 ra3 5) .null) (O_ra1 : Ovr Z kc2 cN1) (G' : Fld Z h0 ra0 cN5 "modCount" "I" (.int 5)) (H' : Fld Z h0 ra0 cN2 "size" "I" (.int 5)) (I' : n0 ≤ ra0) (ne_ra3_ra0 : ra3 ≠ ra0) (ne_ra1_ra0 : ra1 ≠ ra0) (J' : n0 ≤ ra1) :
  own_CN l Z y45 jdk_38_method_25_code 2 (some .boolean) [] R10_64 #[.ref ra0, .ref ra3] h0 (Q10_64 Z ra0 ra1 kc2 ra3 el ee kee h0 n0) := by
 refine own_entryN (plainFor_of_name pn_11) fun p e s m below meth c s₁ hx hby hml hown hnm hret hlk hZ hh X0 e0 => ?_
 have N0 := Fr.nil n0
 rw [ef_24_12 m ra0 ra3]
 refine og s₁ (mkF m 2 #[vR ra0, vR ra3] [.ref ra0, .ref ra0]) (fun _ k => qa X0 hx hby d10_0 rfl rfl rfl (XS.dup X0.here hx rfl (hb hby d10_1) rfl rfl k)) ?_
 obtain ⟨T1, X1, e1, st1⟩ := getF X0 hx hZ hown (host := "") (Or.inl (ow hw 70)) (Via.of (ow hw 71)) e0 G' (g := (mkF m 2 #[vR ra0, vR ra3] [.ref ra0, .ref ra0])) rfl rfl (hb hby d10_2)
 refine og T1 (mkF m 7 #[vR ra0, vR ra3] [.int 6, .ref ra0]) (fun _ k => st1 _ (qc X1 hx hby d10_5 rfl (qp X1 hx hby d10_6 rfl rfl k))) ?_
 obtain ⟨T2, h2, X2, e2, W2, st2⟩ := putF X1 hx hZ hown (host := "") (Or.inl (ow hw 70)) (Via.of (ow hw 71)) e1 G' A' (Or.inl (ow hw 26)) (ow hw 5) (ty := .int) (by decide) rfl rfl (g := (mkF m 7 #[vR ra0, vR ra3] [.int 6, .ref ra0])) rfl rfl (hb hby d10_7)
 have Fw2 := G'.same W2
 have N2 := Fr.snoc X2 N0 I'
 refine og T2 (mkF m 13 #[vR ra0, vR ra3] [.ref ra0, .ref ra3, .ref ra0]) (fun _ k => st2 _ (qa X2 hx hby d10_10 rfl rfl rfl (qa X2 hx hby d10_11 rfl rfl rfl (qa X2 hx hby d10_12 rfl rfl rfl k)))) ?_
 have F3 := (B'.other W2 (Or.inr (slot_ne (Or.inl (ow hw 29)) (Or.inl (ow hw 26)) (by decide) (t := (.array (.object cN1))) (t' := .int) (by decide) (by decide))))
 obtain ⟨T4, X4, e4, st4⟩ := qf X2 hx hZ hown (ow hw 28) e2 F3 (g := (mkF m 13 #[vR ra0, vR ra3] [.ref ra0, .ref ra3, .ref ra0])) rfl rfl hby d10_13
 refine og T4 (mkF m 17 #[vR ra0, vR ra3] [.ref ra0, .ref ra1, .ref ra3, .ref ra0]) (fun _ k => st4 _ (qa X4 hx hby d10_16 rfl rfl rfl k)) ?_
 have F5 := (H'.other W2 (Or.inr (slot_ne (Or.inl (ow hw 58)) (Or.inl (ow hw 26)) (by decide) (t := .int) (t' := .int) (by decide) (by decide))))
 obtain ⟨T6, X6, e6, st6⟩ := qf X4 hx hZ hown (ow hw 57) e4 F5 (g := (mkF m 17 #[vR ra0, vR ra3] [.ref ra0, .ref ra1, .ref ra3, .ref ra0])) rfl rfl hby d10_17
 refine og T6 (mkF m 20 #[vR ra0, vR ra3] [.int 5, .ref ra1, .ref ra3, .ref ra0]) st6 ?_
 have F7 := (U_ra0.wr W2)
 have F8 := (A'.wr W2)
 have F9 := (C'.wr W2)
 have F10 := (D'.wr W2)
 have F11 := (E'.other W2 (Or.inl ne_ra3_ra0))
 have F12 := (F'.other W2 ne_ra1_ra0)
 have F13 := (OLD.wr W2 I')
 obtain ⟨_, T14, L14, X14, hQ14, st14⟩ := own_pc X6 hx hZ hown (ow hw 72) (ow hw 75) (ow hw 73) (ow hw 74) F8 (rm11_65 l Z a0 hw ra0 ra1 kc2 ra3 el ee kee h2 n0 F13 EE0 FE0 VE0 F7 F8 F3 F9 F10 F11 F12 O_ra1 Fw2 F5 J' (Ne.symm ne_ra1_ra0) I') (ow hw 76) (ow hw 6) e6 (g := (mkF m 20 #[vR ra0, vR ra3] [.int 5, .ref ra1, .ref ra3, .ref ra0])) rfl (zs hml) (argsL := [.ref ra3, .ref ra1, .int 5]) (rest := []) (lenOf pd_30 rfl) rfl (hb hby d10_20) (W := 0) rfl
 obtain ⟨rfl, Nq14, K14, f15, f16, f17, f18, f19⟩ := hQ14
 have N14 := Fr.app N2 Nq14
 refine og T14 (mkF m 24 #[vR ra0, vR ra3] [.int 1]) (fun _ k => st14.trans (qc X14 hx hby d10_23 rfl k)) ?_
 have KEEP := (((Keep.refl h0 [ra0, ra1]).wr W2 (Or.inl (List.mem_of_getElem? (i := 0) rfl))).trans K14 (allS (Or.inl (List.mem_of_getElem? (i := 1) rfl)) (allS (Or.inl (List.mem_of_getElem? (i := 0) rfl)) all0)))
 exact own_leaveN X14 hlk (v := some (.int (nar .boolean (1 : Int32)))) (own_nr hret) (lb rfl) (lb rfl) (by exact ⟨rfl, N14, KEEP, f16, f17, f18, f19, f15⟩) (fun fs hr => retN X14 hx (t := .boolean) hret (by simp) (hb hby d10_24) hr)
abbrev R11_67 : Room := { frames := 0, cells := 0, slots := 0, locals := 0 }
def Q11_67 (Z : State) (ra0 ra1 : Addr) (kc2 : ClassId) (ra3 el ee : Addr) (kee : ClassId) (h0 : Heap) (n0 : Nat) (v : Option Value) (h : Heap) (L : List Loc) : Prop := (v = none ∧ Fr n0 L ∧ Keep h0 h [ra1, ra0] ∧ Arv Z h ra1 kc2 (.object cN1) (10 : Int32) (own_rn 7 ra3 3) .null ∧ Unt h ra0 ∧ Fld Z h ra0 cN2 "elementData" "[Ljava/lang/Object;" (.ref ra1) ∧ Fld Z h ra0 cN5 "modCount" "I" (.int 7) ∧ Fld Z h ra0 cN2 "size" "I" (.int 7))
theorem rm11_67 l Z a0 (hw : HW Z a0) ra0 ra1 kc2 ra3 el ee kee h0 n0 (OLD : Old Z n0 h0) (EE0 : Exa Z Z.heap el cN3) (FE0 : Fld Z Z.heap el cN3 "elements" "[Ljava/lang/Object;" (.ref ee)) (VE0 : Arv Z Z.heap ee kee (.object cN1) (0 : Int32) [] .null) (U_ra0 : Unt h0 ra0) (A' : Exa Z h0 ra0 cN2) (B' : Fld Z h0 ra0 cN2 "elementData" "[Ljava/lang/Object;" (.ref ra1)) (C' : Exa Z h0 ra1 "[Ljava/lang/Object;") (D' : Exa Z h0 ra3 cN0) (E' : Fld Z h0 ra3 cN0 "steps" "Ljava/util/List;" (.ref el)) (F' : Arv Z h0 ra1 kc2 (.object cN1) (10 : Int32) (own_rn 6 ra3 4) .null) (O_ra1 : Ovr Z kc2 cN1) (G' : Fld Z h0 ra0 cN5 "modCount" "I" (.int 7)) (H' : Fld Z h0 ra0 cN2 "size" "I" (.int 6)) (I' : n0 ≤ ra1) (ne_ra0_ra1 : ra0 ≠ ra1) (J' : n0 ≤ ra0) :
  own_CN l Z y44 jdk_38_method_24_code 4 none [] R11_67 #[.ref ra0, .ref ra3, .ref ra1, .int 6] h0 (Q11_67 Z ra0 ra1 kc2 ra3 el ee kee h0 n0) := by
 refine own_entryN (plainFor_of_name pn_11) fun p e s m below meth c s₁ hx hby hml hown hnm hret hlk hZ hh X0 e0 => ?_
 have N0 := Fr.nil n0
 rw [ef_11_67 m ra0 ra3 ra1]
 refine og s₁ (mkF m 2 #[vR ra0, vR ra3, vR ra1, vI 6] [.ref ra1, .int 6]) (fun _ k => qi X0 hx hby d11_0 rfl rfl (qa X0 hx hby d11_1 rfl rfl rfl k)) ?_
 obtain ⟨cl1, Ar1, -, Sr1, Nr1, -, -⟩ := id F'
 refine og s₁ (mkF m 3 #[vR ra0, vR ra3, vR ra1, vI 6] [.int 10, .int 6]) (fun t k => X0.arraylength hx (by rw [e0]; exact Ar1.1) (State.isArrayOf_alike hZ.alike Ar1.2.1) (g := (mkF m 2 #[vR ra0, vR ra3, vR ra1, vI 6] [.ref ra1, .int 6])) rfl rfl (hb hby d11_2) t (by rw [len_of Sr1 Nr1]; exact k)) ?_
 refine og s₁ (mkF m 14 #[vR ra0, vR ra3, vR ra1, vI 6] [.ref ra3, .int 6, .ref ra1]) (fun _ k => XS.icmpYes X0.here hx rfl (pc0 := 3) (pc' := 11) rfl (hb hby d11_3) rfl (feq (by decide : ¬ ((6 : Int32) = (10 : Int32)))).2 (by decide) (by decide) (qa X0 hx hby d11_11 rfl rfl rfl (qi X0 hx hby d11_12 rfl rfl (qa X0 hx hby d11_13 rfl rfl rfl k)))) ?_
 obtain ⟨cl2, Ar2, qr2, Sr2, Nr2, Hr2, Gr2⟩ := id F'
 obtain ⟨T2, h2, X2, e2, W2, st2⟩ := stR X0 hx hZ e0 Ar2 (j := (6 : Int32)) (inb_of Sr2 ⟨by decide, by decide⟩) rfl (Sto.ofV Ar2 qr2 O_ra1 (Ins.of_exa D' (ow hw 93))) (g := (mkF m 14 #[vR ra0, vR ra3, vR ra1, vI 6] [.ref ra3, .int 6, .ref ra1])) rfl rfl (hb hby d11_14)
 have V2 : Arv Z h2 ra1 kc2 (.object cN1) (10 : Int32) (own_rn 7 ra3 3) .null := Arv.set Ar2 qr2 Sr2 Nr2 Hr2 Gr2 rfl W2 6 rfl (lb rfl)
 have N2 := Fr.snoc X2 N0 I'
 refine og T2 (mkF m 19 #[vR ra0, vR ra3, vR ra1, vI 6] [.int 7, .ref ra0]) (fun _ k => st2 _ (qa X2 hx hby d11_15 rfl rfl rfl (qi X2 hx hby d11_16 rfl rfl (qc X2 hx hby d11_17 rfl (qp X2 hx hby d11_18 rfl rfl k))))) ?_
 have F3 := (A'.wr W2)
 have F4 := (H'.other W2 (Or.inl ne_ra0_ra1))
 obtain ⟨T5, h5, X5, e5, W5, st5⟩ := putF X2 hx hZ hown (host := "") (Or.inl (ow hw 57)) Via.refl e2 F4 F3 (Or.inl (ow hw 58)) (ow hw 5) (ty := .int) (by decide) rfl rfl (g := (mkF m 19 #[vR ra0, vR ra3, vR ra1, vI 6] [.int 7, .ref ra0])) rfl rfl (hb hby d11_19)
 have Fw5 := F4.same W5
 have N5 := Fr.snoc X5 N2 J'
 refine og T5 (mkF m 22 #[vR ra0, vR ra3, vR ra1, vI 6] []) st5 ?_
 have F6 := (V2.other W5 (Ne.symm ne_ra0_ra1))
 have F7 := ((U_ra0.wr W2).wr W5)
 have F8 := ((B'.other W2 (Or.inl ne_ra0_ra1)).other W5 (Or.inr (slot_ne (Or.inl (ow hw 29)) (Or.inl (ow hw 58)) (by decide) (t := (.array (.object cN1))) (t' := .int) (by decide) (by decide))))
 have F9 := ((G'.other W2 (Or.inl ne_ra0_ra1)).other W5 (Or.inr (slot_ne (Or.inl (ow hw 26)) (Or.inl (ow hw 58)) (by decide) (t := .int) (t' := .int) (by decide) (by decide))))
 have KEEP := (((Keep.refl h0 [ra1, ra0]).wr W2 (Or.inl (List.mem_of_getElem? (i := 0) rfl))).wr W5 (Or.inl (List.mem_of_getElem? (i := 1) rfl)))
 exact own_leaveN X5 hlk (v := none) (fun _ => rfl) (lb rfl) (lb rfl) (by rw [e5]; exact ⟨rfl, N5, KEEP, F6, F7, F8, F9, Fw5⟩) (fun fs hr => X5.returnOut hx hret (hb hby d11_22) hr)
abbrev R10_66 : Room := { frames := 1, cells := 0, slots := 0, locals := 15 }
def Q10_66 (Z : State) (ra0 ra1 : Addr) (kc2 : ClassId) (ra3 el ee : Addr) (kee : ClassId) (h0 : Heap) (n0 : Nat) (v : Option Value) (h : Heap) (L : List Loc) : Prop := (v = some (.int 1) ∧ Fr n0 L ∧ Keep h0 h [ra0, ra1] ∧ Unt h ra0 ∧ Fld Z h ra0 cN2 "elementData" "[Ljava/lang/Object;" (.ref ra1) ∧ Fld Z h ra0 cN5 "modCount" "I" (.int 7) ∧ Fld Z h ra0 cN2 "size" "I" (.int 7) ∧ Arv Z h ra1 kc2 (.object cN1) (10 : Int32) (own_rn 7 ra3 3) .null)
theorem rm10_66 l Z a0 (hw : HW Z a0) ra0 ra1 kc2 ra3 el ee kee h0 n0 (OLD : Old Z n0 h0) (EE0 : Exa Z Z.heap el cN3) (FE0 : Fld Z Z.heap el cN3 "elements" "[Ljava/lang/Object;" (.ref ee)) (VE0 : Arv Z Z.heap ee kee (.object cN1) (0 : Int32) [] .null) (U_ra0 : Unt h0 ra0) (A' : Exa Z h0 ra0 cN2) (B' : Fld Z h0 ra0 cN2 "elementData" "[Ljava/lang/Object;" (.ref ra1)) (C' : Exa Z h0 ra1 "[Ljava/lang/Object;") (D' : Exa Z h0 ra3 cN0) (E' : Fld Z h0 ra3 cN0 "steps" "Ljava/util/List;" (.ref el)) (F' : Arv Z h0 ra1 kc2 (.object cN1) (10 : Int32) (own_rn 6 ra3 4) .null) (O_ra1 : Ovr Z kc2 cN1) (G' : Fld Z h0 ra0 cN5 "modCount" "I" (.int 6)) (H' : Fld Z h0 ra0 cN2 "size" "I" (.int 6)) (I' : n0 ≤ ra0) (ne_ra3_ra0 : ra3 ≠ ra0) (ne_ra1_ra0 : ra1 ≠ ra0) (J' : n0 ≤ ra1) :
  own_CN l Z y45 jdk_38_method_25_code 2 (some .boolean) [] R10_66 #[.ref ra0, .ref ra3] h0 (Q10_66 Z ra0 ra1 kc2 ra3 el ee kee h0 n0) := by
 refine own_entryN (plainFor_of_name pn_11) fun p e s m below meth c s₁ hx hby hml hown hnm hret hlk hZ hh X0 e0 => ?_
 have N0 := Fr.nil n0
 rw [ef_24_12 m ra0 ra3]
 refine og s₁ (mkF m 2 #[vR ra0, vR ra3] [.ref ra0, .ref ra0]) (fun _ k => qa X0 hx hby d10_0 rfl rfl rfl (XS.dup X0.here hx rfl (hb hby d10_1) rfl rfl k)) ?_
 obtain ⟨T1, X1, e1, st1⟩ := getF X0 hx hZ hown (host := "") (Or.inl (ow hw 70)) (Via.of (ow hw 71)) e0 G' (g := (mkF m 2 #[vR ra0, vR ra3] [.ref ra0, .ref ra0])) rfl rfl (hb hby d10_2)
 refine og T1 (mkF m 7 #[vR ra0, vR ra3] [.int 7, .ref ra0]) (fun _ k => st1 _ (qc X1 hx hby d10_5 rfl (qp X1 hx hby d10_6 rfl rfl k))) ?_
 obtain ⟨T2, h2, X2, e2, W2, st2⟩ := putF X1 hx hZ hown (host := "") (Or.inl (ow hw 70)) (Via.of (ow hw 71)) e1 G' A' (Or.inl (ow hw 26)) (ow hw 5) (ty := .int) (by decide) rfl rfl (g := (mkF m 7 #[vR ra0, vR ra3] [.int 7, .ref ra0])) rfl rfl (hb hby d10_7)
 have Fw2 := G'.same W2
 have N2 := Fr.snoc X2 N0 I'
 refine og T2 (mkF m 13 #[vR ra0, vR ra3] [.ref ra0, .ref ra3, .ref ra0]) (fun _ k => st2 _ (qa X2 hx hby d10_10 rfl rfl rfl (qa X2 hx hby d10_11 rfl rfl rfl (qa X2 hx hby d10_12 rfl rfl rfl k)))) ?_
 have F3 := (B'.other W2 (Or.inr (slot_ne (Or.inl (ow hw 29)) (Or.inl (ow hw 26)) (by decide) (t := (.array (.object cN1))) (t' := .int) (by decide) (by decide))))
 obtain ⟨T4, X4, e4, st4⟩ := qf X2 hx hZ hown (ow hw 28) e2 F3 (g := (mkF m 13 #[vR ra0, vR ra3] [.ref ra0, .ref ra3, .ref ra0])) rfl rfl hby d10_13
 refine og T4 (mkF m 17 #[vR ra0, vR ra3] [.ref ra0, .ref ra1, .ref ra3, .ref ra0]) (fun _ k => st4 _ (qa X4 hx hby d10_16 rfl rfl rfl k)) ?_
 have F5 := (H'.other W2 (Or.inr (slot_ne (Or.inl (ow hw 58)) (Or.inl (ow hw 26)) (by decide) (t := .int) (t' := .int) (by decide) (by decide))))
 obtain ⟨T6, X6, e6, st6⟩ := qf X4 hx hZ hown (ow hw 57) e4 F5 (g := (mkF m 17 #[vR ra0, vR ra3] [.ref ra0, .ref ra1, .ref ra3, .ref ra0])) rfl rfl hby d10_17
 refine og T6 (mkF m 20 #[vR ra0, vR ra3] [.int 6, .ref ra1, .ref ra3, .ref ra0]) st6 ?_
 have F7 := (U_ra0.wr W2)
 have F8 := (A'.wr W2)
 have F9 := (C'.wr W2)
 have F10 := (D'.wr W2)
 have F11 := (E'.other W2 (Or.inl ne_ra3_ra0))
 have F12 := (F'.other W2 ne_ra1_ra0)
 have F13 := (OLD.wr W2 I')
 obtain ⟨_, T14, L14, X14, hQ14, st14⟩ := own_pc X6 hx hZ hown (ow hw 72) (ow hw 75) (ow hw 73) (ow hw 74) F8 (rm11_67 l Z a0 hw ra0 ra1 kc2 ra3 el ee kee h2 n0 F13 EE0 FE0 VE0 F7 F8 F3 F9 F10 F11 F12 O_ra1 Fw2 F5 J' (Ne.symm ne_ra1_ra0) I') (ow hw 76) (ow hw 6) e6 (g := (mkF m 20 #[vR ra0, vR ra3] [.int 6, .ref ra1, .ref ra3, .ref ra0])) rfl (zs hml) (argsL := [.ref ra3, .ref ra1, .int 6]) (rest := []) (lenOf pd_30 rfl) rfl (hb hby d10_20) (W := 0) rfl
 obtain ⟨rfl, Nq14, K14, f15, f16, f17, f18, f19⟩ := hQ14
 have N14 := Fr.app N2 Nq14
 refine og T14 (mkF m 24 #[vR ra0, vR ra3] [.int 1]) (fun _ k => st14.trans (qc X14 hx hby d10_23 rfl k)) ?_
 have KEEP := (((Keep.refl h0 [ra0, ra1]).wr W2 (Or.inl (List.mem_of_getElem? (i := 0) rfl))).trans K14 (allS (Or.inl (List.mem_of_getElem? (i := 1) rfl)) (allS (Or.inl (List.mem_of_getElem? (i := 0) rfl)) all0)))
 exact own_leaveN X14 hlk (v := some (.int (nar .boolean (1 : Int32)))) (own_nr hret) (lb rfl) (lb rfl) (by exact ⟨rfl, N14, KEEP, f16, f17, f18, f19, f15⟩) (fun fs hr => retN X14 hx (t := .boolean) hret (by simp) (hb hby d10_24) hr)
abbrev R11_69 : Room := { frames := 0, cells := 0, slots := 0, locals := 0 }
def Q11_69 (Z : State) (ra0 ra1 : Addr) (kc2 : ClassId) (ra3 el ee : Addr) (kee : ClassId) (h0 : Heap) (n0 : Nat) (v : Option Value) (h : Heap) (L : List Loc) : Prop := (v = none ∧ Fr n0 L ∧ Keep h0 h [ra1, ra0] ∧ Arv Z h ra1 kc2 (.object cN1) (10 : Int32) (own_rn 8 ra3 2) .null ∧ Unt h ra0 ∧ Fld Z h ra0 cN2 "elementData" "[Ljava/lang/Object;" (.ref ra1) ∧ Fld Z h ra0 cN5 "modCount" "I" (.int 8) ∧ Fld Z h ra0 cN2 "size" "I" (.int 8))
theorem rm11_69 l Z a0 (hw : HW Z a0) ra0 ra1 kc2 ra3 el ee kee h0 n0 (OLD : Old Z n0 h0) (EE0 : Exa Z Z.heap el cN3) (FE0 : Fld Z Z.heap el cN3 "elements" "[Ljava/lang/Object;" (.ref ee)) (VE0 : Arv Z Z.heap ee kee (.object cN1) (0 : Int32) [] .null) (U_ra0 : Unt h0 ra0) (A' : Exa Z h0 ra0 cN2) (B' : Fld Z h0 ra0 cN2 "elementData" "[Ljava/lang/Object;" (.ref ra1)) (C' : Exa Z h0 ra1 "[Ljava/lang/Object;") (D' : Exa Z h0 ra3 cN0) (E' : Fld Z h0 ra3 cN0 "steps" "Ljava/util/List;" (.ref el)) (F' : Arv Z h0 ra1 kc2 (.object cN1) (10 : Int32) (own_rn 7 ra3 3) .null) (O_ra1 : Ovr Z kc2 cN1) (G' : Fld Z h0 ra0 cN5 "modCount" "I" (.int 8)) (H' : Fld Z h0 ra0 cN2 "size" "I" (.int 7)) (I' : n0 ≤ ra1) (ne_ra0_ra1 : ra0 ≠ ra1) (J' : n0 ≤ ra0) :
  own_CN l Z y44 jdk_38_method_24_code 4 none [] R11_69 #[.ref ra0, .ref ra3, .ref ra1, .int 7] h0 (Q11_69 Z ra0 ra1 kc2 ra3 el ee kee h0 n0) := by
 refine own_entryN (plainFor_of_name pn_11) fun p e s m below meth c s₁ hx hby hml hown hnm hret hlk hZ hh X0 e0 => ?_
 have N0 := Fr.nil n0
 rw [ef_11_69 m ra0 ra3 ra1]
 refine og s₁ (mkF m 2 #[vR ra0, vR ra3, vR ra1, vI 7] [.ref ra1, .int 7]) (fun _ k => qi X0 hx hby d11_0 rfl rfl (qa X0 hx hby d11_1 rfl rfl rfl k)) ?_
 obtain ⟨cl1, Ar1, -, Sr1, Nr1, -, -⟩ := id F'
 refine og s₁ (mkF m 3 #[vR ra0, vR ra3, vR ra1, vI 7] [.int 10, .int 7]) (fun t k => X0.arraylength hx (by rw [e0]; exact Ar1.1) (State.isArrayOf_alike hZ.alike Ar1.2.1) (g := (mkF m 2 #[vR ra0, vR ra3, vR ra1, vI 7] [.ref ra1, .int 7])) rfl rfl (hb hby d11_2) t (by rw [len_of Sr1 Nr1]; exact k)) ?_
 refine og s₁ (mkF m 14 #[vR ra0, vR ra3, vR ra1, vI 7] [.ref ra3, .int 7, .ref ra1]) (fun _ k => XS.icmpYes X0.here hx rfl (pc0 := 3) (pc' := 11) rfl (hb hby d11_3) rfl (feq (by decide : ¬ ((7 : Int32) = (10 : Int32)))).2 (by decide) (by decide) (qa X0 hx hby d11_11 rfl rfl rfl (qi X0 hx hby d11_12 rfl rfl (qa X0 hx hby d11_13 rfl rfl rfl k)))) ?_
 obtain ⟨cl2, Ar2, qr2, Sr2, Nr2, Hr2, Gr2⟩ := id F'
 obtain ⟨T2, h2, X2, e2, W2, st2⟩ := stR X0 hx hZ e0 Ar2 (j := (7 : Int32)) (inb_of Sr2 ⟨by decide, by decide⟩) rfl (Sto.ofV Ar2 qr2 O_ra1 (Ins.of_exa D' (ow hw 93))) (g := (mkF m 14 #[vR ra0, vR ra3, vR ra1, vI 7] [.ref ra3, .int 7, .ref ra1])) rfl rfl (hb hby d11_14)
 have V2 : Arv Z h2 ra1 kc2 (.object cN1) (10 : Int32) (own_rn 8 ra3 2) .null := Arv.set Ar2 qr2 Sr2 Nr2 Hr2 Gr2 rfl W2 7 rfl (lb rfl)
 have N2 := Fr.snoc X2 N0 I'
 refine og T2 (mkF m 19 #[vR ra0, vR ra3, vR ra1, vI 7] [.int 8, .ref ra0]) (fun _ k => st2 _ (qa X2 hx hby d11_15 rfl rfl rfl (qi X2 hx hby d11_16 rfl rfl (qc X2 hx hby d11_17 rfl (qp X2 hx hby d11_18 rfl rfl k))))) ?_
 have F3 := (A'.wr W2)
 have F4 := (H'.other W2 (Or.inl ne_ra0_ra1))
 obtain ⟨T5, h5, X5, e5, W5, st5⟩ := putF X2 hx hZ hown (host := "") (Or.inl (ow hw 57)) Via.refl e2 F4 F3 (Or.inl (ow hw 58)) (ow hw 5) (ty := .int) (by decide) rfl rfl (g := (mkF m 19 #[vR ra0, vR ra3, vR ra1, vI 7] [.int 8, .ref ra0])) rfl rfl (hb hby d11_19)
 have Fw5 := F4.same W5
 have N5 := Fr.snoc X5 N2 J'
 refine og T5 (mkF m 22 #[vR ra0, vR ra3, vR ra1, vI 7] []) st5 ?_
 have F6 := (V2.other W5 (Ne.symm ne_ra0_ra1))
 have F7 := ((U_ra0.wr W2).wr W5)
 have F8 := ((B'.other W2 (Or.inl ne_ra0_ra1)).other W5 (Or.inr (slot_ne (Or.inl (ow hw 29)) (Or.inl (ow hw 58)) (by decide) (t := (.array (.object cN1))) (t' := .int) (by decide) (by decide))))
 have F9 := ((G'.other W2 (Or.inl ne_ra0_ra1)).other W5 (Or.inr (slot_ne (Or.inl (ow hw 26)) (Or.inl (ow hw 58)) (by decide) (t := .int) (t' := .int) (by decide) (by decide))))
 have KEEP := (((Keep.refl h0 [ra1, ra0]).wr W2 (Or.inl (List.mem_of_getElem? (i := 0) rfl))).wr W5 (Or.inl (List.mem_of_getElem? (i := 1) rfl)))
 exact own_leaveN X5 hlk (v := none) (fun _ => rfl) (lb rfl) (lb rfl) (by rw [e5]; exact ⟨rfl, N5, KEEP, F6, F7, F8, F9, Fw5⟩) (fun fs hr => X5.returnOut hx hret (hb hby d11_22) hr)
abbrev R10_68 : Room := { frames := 1, cells := 0, slots := 0, locals := 15 }
def Q10_68 (Z : State) (ra0 ra1 : Addr) (kc2 : ClassId) (ra3 el ee : Addr) (kee : ClassId) (h0 : Heap) (n0 : Nat) (v : Option Value) (h : Heap) (L : List Loc) : Prop := (v = some (.int 1) ∧ Fr n0 L ∧ Keep h0 h [ra0, ra1] ∧ Unt h ra0 ∧ Fld Z h ra0 cN2 "elementData" "[Ljava/lang/Object;" (.ref ra1) ∧ Fld Z h ra0 cN5 "modCount" "I" (.int 8) ∧ Fld Z h ra0 cN2 "size" "I" (.int 8) ∧ Arv Z h ra1 kc2 (.object cN1) (10 : Int32) (own_rn 8 ra3 2) .null)
theorem rm10_68 l Z a0 (hw : HW Z a0) ra0 ra1 kc2 ra3 el ee kee h0 n0 (OLD : Old Z n0 h0) (EE0 : Exa Z Z.heap el cN3) (FE0 : Fld Z Z.heap el cN3 "elements" "[Ljava/lang/Object;" (.ref ee)) (VE0 : Arv Z Z.heap ee kee (.object cN1) (0 : Int32) [] .null) (U_ra0 : Unt h0 ra0) (A' : Exa Z h0 ra0 cN2) (B' : Fld Z h0 ra0 cN2 "elementData" "[Ljava/lang/Object;" (.ref ra1)) (C' : Exa Z h0 ra1 "[Ljava/lang/Object;") (D' : Exa Z h0 ra3 cN0) (E' : Fld Z h0 ra3 cN0 "steps" "Ljava/util/List;" (.ref el)) (F' : Arv Z h0 ra1 kc2 (.object cN1) (10 : Int32) (own_rn 7 ra3 3) .null) (O_ra1 : Ovr Z kc2 cN1) (G' : Fld Z h0 ra0 cN5 "modCount" "I" (.int 7)) (H' : Fld Z h0 ra0 cN2 "size" "I" (.int 7)) (I' : n0 ≤ ra0) (ne_ra3_ra0 : ra3 ≠ ra0) (ne_ra1_ra0 : ra1 ≠ ra0) (J' : n0 ≤ ra1) :
  own_CN l Z y45 jdk_38_method_25_code 2 (some .boolean) [] R10_68 #[.ref ra0, .ref ra3] h0 (Q10_68 Z ra0 ra1 kc2 ra3 el ee kee h0 n0) := by
 refine own_entryN (plainFor_of_name pn_11) fun p e s m below meth c s₁ hx hby hml hown hnm hret hlk hZ hh X0 e0 => ?_
 have N0 := Fr.nil n0
 rw [ef_24_12 m ra0 ra3]
 refine og s₁ (mkF m 2 #[vR ra0, vR ra3] [.ref ra0, .ref ra0]) (fun _ k => qa X0 hx hby d10_0 rfl rfl rfl (XS.dup X0.here hx rfl (hb hby d10_1) rfl rfl k)) ?_
 obtain ⟨T1, X1, e1, st1⟩ := getF X0 hx hZ hown (host := "") (Or.inl (ow hw 70)) (Via.of (ow hw 71)) e0 G' (g := (mkF m 2 #[vR ra0, vR ra3] [.ref ra0, .ref ra0])) rfl rfl (hb hby d10_2)
 refine og T1 (mkF m 7 #[vR ra0, vR ra3] [.int 8, .ref ra0]) (fun _ k => st1 _ (qc X1 hx hby d10_5 rfl (qp X1 hx hby d10_6 rfl rfl k))) ?_
 obtain ⟨T2, h2, X2, e2, W2, st2⟩ := putF X1 hx hZ hown (host := "") (Or.inl (ow hw 70)) (Via.of (ow hw 71)) e1 G' A' (Or.inl (ow hw 26)) (ow hw 5) (ty := .int) (by decide) rfl rfl (g := (mkF m 7 #[vR ra0, vR ra3] [.int 8, .ref ra0])) rfl rfl (hb hby d10_7)
 have Fw2 := G'.same W2
 have N2 := Fr.snoc X2 N0 I'
 refine og T2 (mkF m 13 #[vR ra0, vR ra3] [.ref ra0, .ref ra3, .ref ra0]) (fun _ k => st2 _ (qa X2 hx hby d10_10 rfl rfl rfl (qa X2 hx hby d10_11 rfl rfl rfl (qa X2 hx hby d10_12 rfl rfl rfl k)))) ?_
 have F3 := (B'.other W2 (Or.inr (slot_ne (Or.inl (ow hw 29)) (Or.inl (ow hw 26)) (by decide) (t := (.array (.object cN1))) (t' := .int) (by decide) (by decide))))
 obtain ⟨T4, X4, e4, st4⟩ := qf X2 hx hZ hown (ow hw 28) e2 F3 (g := (mkF m 13 #[vR ra0, vR ra3] [.ref ra0, .ref ra3, .ref ra0])) rfl rfl hby d10_13
 refine og T4 (mkF m 17 #[vR ra0, vR ra3] [.ref ra0, .ref ra1, .ref ra3, .ref ra0]) (fun _ k => st4 _ (qa X4 hx hby d10_16 rfl rfl rfl k)) ?_
 have F5 := (H'.other W2 (Or.inr (slot_ne (Or.inl (ow hw 58)) (Or.inl (ow hw 26)) (by decide) (t := .int) (t' := .int) (by decide) (by decide))))
 obtain ⟨T6, X6, e6, st6⟩ := qf X4 hx hZ hown (ow hw 57) e4 F5 (g := (mkF m 17 #[vR ra0, vR ra3] [.ref ra0, .ref ra1, .ref ra3, .ref ra0])) rfl rfl hby d10_17
 refine og T6 (mkF m 20 #[vR ra0, vR ra3] [.int 7, .ref ra1, .ref ra3, .ref ra0]) st6 ?_
 have F7 := (U_ra0.wr W2)
 have F8 := (A'.wr W2)
 have F9 := (C'.wr W2)
 have F10 := (D'.wr W2)
 have F11 := (E'.other W2 (Or.inl ne_ra3_ra0))
 have F12 := (F'.other W2 ne_ra1_ra0)
 have F13 := (OLD.wr W2 I')
 obtain ⟨_, T14, L14, X14, hQ14, st14⟩ := own_pc X6 hx hZ hown (ow hw 72) (ow hw 75) (ow hw 73) (ow hw 74) F8 (rm11_69 l Z a0 hw ra0 ra1 kc2 ra3 el ee kee h2 n0 F13 EE0 FE0 VE0 F7 F8 F3 F9 F10 F11 F12 O_ra1 Fw2 F5 J' (Ne.symm ne_ra1_ra0) I') (ow hw 76) (ow hw 6) e6 (g := (mkF m 20 #[vR ra0, vR ra3] [.int 7, .ref ra1, .ref ra3, .ref ra0])) rfl (zs hml) (argsL := [.ref ra3, .ref ra1, .int 7]) (rest := []) (lenOf pd_30 rfl) rfl (hb hby d10_20) (W := 0) rfl
 obtain ⟨rfl, Nq14, K14, f15, f16, f17, f18, f19⟩ := hQ14
 have N14 := Fr.app N2 Nq14
 refine og T14 (mkF m 24 #[vR ra0, vR ra3] [.int 1]) (fun _ k => st14.trans (qc X14 hx hby d10_23 rfl k)) ?_
 have KEEP := (((Keep.refl h0 [ra0, ra1]).wr W2 (Or.inl (List.mem_of_getElem? (i := 0) rfl))).trans K14 (allS (Or.inl (List.mem_of_getElem? (i := 1) rfl)) (allS (Or.inl (List.mem_of_getElem? (i := 0) rfl)) all0)))
 exact own_leaveN X14 hlk (v := some (.int (nar .boolean (1 : Int32)))) (own_nr hret) (lb rfl) (lb rfl) (by exact ⟨rfl, N14, KEEP, f16, f17, f18, f19, f15⟩) (fun fs hr => retN X14 hx (t := .boolean) hret (by simp) (hb hby d10_24) hr)
abbrev R11_71 : Room := { frames := 0, cells := 0, slots := 0, locals := 0 }
def Q11_71 (Z : State) (ra0 ra1 : Addr) (kc2 : ClassId) (ra3 el ee : Addr) (kee : ClassId) (h0 : Heap) (n0 : Nat) (v : Option Value) (h : Heap) (L : List Loc) : Prop := (v = none ∧ Fr n0 L ∧ Keep h0 h [ra1, ra0] ∧ Arv Z h ra1 kc2 (.object cN1) (10 : Int32) (own_rn 9 ra3 1) .null ∧ Unt h ra0 ∧ Fld Z h ra0 cN2 "elementData" "[Ljava/lang/Object;" (.ref ra1) ∧ Fld Z h ra0 cN5 "modCount" "I" (.int 9) ∧ Fld Z h ra0 cN2 "size" "I" (.int 9))
theorem rm11_71 l Z a0 (hw : HW Z a0) ra0 ra1 kc2 ra3 el ee kee h0 n0 (OLD : Old Z n0 h0) (EE0 : Exa Z Z.heap el cN3) (FE0 : Fld Z Z.heap el cN3 "elements" "[Ljava/lang/Object;" (.ref ee)) (VE0 : Arv Z Z.heap ee kee (.object cN1) (0 : Int32) [] .null) (U_ra0 : Unt h0 ra0) (A' : Exa Z h0 ra0 cN2) (B' : Fld Z h0 ra0 cN2 "elementData" "[Ljava/lang/Object;" (.ref ra1)) (C' : Exa Z h0 ra1 "[Ljava/lang/Object;") (D' : Exa Z h0 ra3 cN0) (E' : Fld Z h0 ra3 cN0 "steps" "Ljava/util/List;" (.ref el)) (F' : Arv Z h0 ra1 kc2 (.object cN1) (10 : Int32) (own_rn 8 ra3 2) .null) (O_ra1 : Ovr Z kc2 cN1) (G' : Fld Z h0 ra0 cN5 "modCount" "I" (.int 9)) (H' : Fld Z h0 ra0 cN2 "size" "I" (.int 8)) (I' : n0 ≤ ra1) (ne_ra0_ra1 : ra0 ≠ ra1) (J' : n0 ≤ ra0) :
  own_CN l Z y44 jdk_38_method_24_code 4 none [] R11_71 #[.ref ra0, .ref ra3, .ref ra1, .int 8] h0 (Q11_71 Z ra0 ra1 kc2 ra3 el ee kee h0 n0) := by
 refine own_entryN (plainFor_of_name pn_11) fun p e s m below meth c s₁ hx hby hml hown hnm hret hlk hZ hh X0 e0 => ?_
 have N0 := Fr.nil n0
 rw [ef_11_71 m ra0 ra3 ra1]
 refine og s₁ (mkF m 2 #[vR ra0, vR ra3, vR ra1, vI 8] [.ref ra1, .int 8]) (fun _ k => qi X0 hx hby d11_0 rfl rfl (qa X0 hx hby d11_1 rfl rfl rfl k)) ?_
 obtain ⟨cl1, Ar1, -, Sr1, Nr1, -, -⟩ := id F'
 refine og s₁ (mkF m 3 #[vR ra0, vR ra3, vR ra1, vI 8] [.int 10, .int 8]) (fun t k => X0.arraylength hx (by rw [e0]; exact Ar1.1) (State.isArrayOf_alike hZ.alike Ar1.2.1) (g := (mkF m 2 #[vR ra0, vR ra3, vR ra1, vI 8] [.ref ra1, .int 8])) rfl rfl (hb hby d11_2) t (by rw [len_of Sr1 Nr1]; exact k)) ?_
 refine og s₁ (mkF m 14 #[vR ra0, vR ra3, vR ra1, vI 8] [.ref ra3, .int 8, .ref ra1]) (fun _ k => XS.icmpYes X0.here hx rfl (pc0 := 3) (pc' := 11) rfl (hb hby d11_3) rfl (feq (by decide : ¬ ((8 : Int32) = (10 : Int32)))).2 (by decide) (by decide) (qa X0 hx hby d11_11 rfl rfl rfl (qi X0 hx hby d11_12 rfl rfl (qa X0 hx hby d11_13 rfl rfl rfl k)))) ?_
 obtain ⟨cl2, Ar2, qr2, Sr2, Nr2, Hr2, Gr2⟩ := id F'
 obtain ⟨T2, h2, X2, e2, W2, st2⟩ := stR X0 hx hZ e0 Ar2 (j := (8 : Int32)) (inb_of Sr2 ⟨by decide, by decide⟩) rfl (Sto.ofV Ar2 qr2 O_ra1 (Ins.of_exa D' (ow hw 93))) (g := (mkF m 14 #[vR ra0, vR ra3, vR ra1, vI 8] [.ref ra3, .int 8, .ref ra1])) rfl rfl (hb hby d11_14)
 have V2 : Arv Z h2 ra1 kc2 (.object cN1) (10 : Int32) (own_rn 9 ra3 1) .null := Arv.set Ar2 qr2 Sr2 Nr2 Hr2 Gr2 rfl W2 8 rfl (lb rfl)
 have N2 := Fr.snoc X2 N0 I'
 refine og T2 (mkF m 19 #[vR ra0, vR ra3, vR ra1, vI 8] [.int 9, .ref ra0]) (fun _ k => st2 _ (qa X2 hx hby d11_15 rfl rfl rfl (qi X2 hx hby d11_16 rfl rfl (qc X2 hx hby d11_17 rfl (qp X2 hx hby d11_18 rfl rfl k))))) ?_
 have F3 := (A'.wr W2)
 have F4 := (H'.other W2 (Or.inl ne_ra0_ra1))
 obtain ⟨T5, h5, X5, e5, W5, st5⟩ := putF X2 hx hZ hown (host := "") (Or.inl (ow hw 57)) Via.refl e2 F4 F3 (Or.inl (ow hw 58)) (ow hw 5) (ty := .int) (by decide) rfl rfl (g := (mkF m 19 #[vR ra0, vR ra3, vR ra1, vI 8] [.int 9, .ref ra0])) rfl rfl (hb hby d11_19)
 have Fw5 := F4.same W5
 have N5 := Fr.snoc X5 N2 J'
 refine og T5 (mkF m 22 #[vR ra0, vR ra3, vR ra1, vI 8] []) st5 ?_
 have F6 := (V2.other W5 (Ne.symm ne_ra0_ra1))
 have F7 := ((U_ra0.wr W2).wr W5)
 have F8 := ((B'.other W2 (Or.inl ne_ra0_ra1)).other W5 (Or.inr (slot_ne (Or.inl (ow hw 29)) (Or.inl (ow hw 58)) (by decide) (t := (.array (.object cN1))) (t' := .int) (by decide) (by decide))))
 have F9 := ((G'.other W2 (Or.inl ne_ra0_ra1)).other W5 (Or.inr (slot_ne (Or.inl (ow hw 26)) (Or.inl (ow hw 58)) (by decide) (t := .int) (t' := .int) (by decide) (by decide))))
 have KEEP := (((Keep.refl h0 [ra1, ra0]).wr W2 (Or.inl (List.mem_of_getElem? (i := 0) rfl))).wr W5 (Or.inl (List.mem_of_getElem? (i := 1) rfl)))
 exact own_leaveN X5 hlk (v := none) (fun _ => rfl) (lb rfl) (lb rfl) (by rw [e5]; exact ⟨rfl, N5, KEEP, F6, F7, F8, F9, Fw5⟩) (fun fs hr => X5.returnOut hx hret (hb hby d11_22) hr)
abbrev R10_70 : Room := { frames := 1, cells := 0, slots := 0, locals := 15 }
def Q10_70 (Z : State) (ra0 ra1 : Addr) (kc2 : ClassId) (ra3 el ee : Addr) (kee : ClassId) (h0 : Heap) (n0 : Nat) (v : Option Value) (h : Heap) (L : List Loc) : Prop := (v = some (.int 1) ∧ Fr n0 L ∧ Keep h0 h [ra0, ra1] ∧ Unt h ra0 ∧ Fld Z h ra0 cN2 "elementData" "[Ljava/lang/Object;" (.ref ra1) ∧ Fld Z h ra0 cN5 "modCount" "I" (.int 9) ∧ Fld Z h ra0 cN2 "size" "I" (.int 9) ∧ Arv Z h ra1 kc2 (.object cN1) (10 : Int32) (own_rn 9 ra3 1) .null)
theorem rm10_70 l Z a0 (hw : HW Z a0) ra0 ra1 kc2 ra3 el ee kee h0 n0 (OLD : Old Z n0 h0) (EE0 : Exa Z Z.heap el cN3) (FE0 : Fld Z Z.heap el cN3 "elements" "[Ljava/lang/Object;" (.ref ee)) (VE0 : Arv Z Z.heap ee kee (.object cN1) (0 : Int32) [] .null) (U_ra0 : Unt h0 ra0) (A' : Exa Z h0 ra0 cN2) (B' : Fld Z h0 ra0 cN2 "elementData" "[Ljava/lang/Object;" (.ref ra1)) (C' : Exa Z h0 ra1 "[Ljava/lang/Object;") (D' : Exa Z h0 ra3 cN0) (E' : Fld Z h0 ra3 cN0 "steps" "Ljava/util/List;" (.ref el)) (F' : Arv Z h0 ra1 kc2 (.object cN1) (10 : Int32) (own_rn 8 ra3 2) .null) (O_ra1 : Ovr Z kc2 cN1) (G' : Fld Z h0 ra0 cN5 "modCount" "I" (.int 8)) (H' : Fld Z h0 ra0 cN2 "size" "I" (.int 8)) (I' : n0 ≤ ra0) (ne_ra3_ra0 : ra3 ≠ ra0) (ne_ra1_ra0 : ra1 ≠ ra0) (J' : n0 ≤ ra1) :
  own_CN l Z y45 jdk_38_method_25_code 2 (some .boolean) [] R10_70 #[.ref ra0, .ref ra3] h0 (Q10_70 Z ra0 ra1 kc2 ra3 el ee kee h0 n0) := by
 refine own_entryN (plainFor_of_name pn_11) fun p e s m below meth c s₁ hx hby hml hown hnm hret hlk hZ hh X0 e0 => ?_
 have N0 := Fr.nil n0
 rw [ef_24_12 m ra0 ra3]
 refine og s₁ (mkF m 2 #[vR ra0, vR ra3] [.ref ra0, .ref ra0]) (fun _ k => qa X0 hx hby d10_0 rfl rfl rfl (XS.dup X0.here hx rfl (hb hby d10_1) rfl rfl k)) ?_
 obtain ⟨T1, X1, e1, st1⟩ := getF X0 hx hZ hown (host := "") (Or.inl (ow hw 70)) (Via.of (ow hw 71)) e0 G' (g := (mkF m 2 #[vR ra0, vR ra3] [.ref ra0, .ref ra0])) rfl rfl (hb hby d10_2)
 refine og T1 (mkF m 7 #[vR ra0, vR ra3] [.int 9, .ref ra0]) (fun _ k => st1 _ (qc X1 hx hby d10_5 rfl (qp X1 hx hby d10_6 rfl rfl k))) ?_
 obtain ⟨T2, h2, X2, e2, W2, st2⟩ := putF X1 hx hZ hown (host := "") (Or.inl (ow hw 70)) (Via.of (ow hw 71)) e1 G' A' (Or.inl (ow hw 26)) (ow hw 5) (ty := .int) (by decide) rfl rfl (g := (mkF m 7 #[vR ra0, vR ra3] [.int 9, .ref ra0])) rfl rfl (hb hby d10_7)
 have Fw2 := G'.same W2
 have N2 := Fr.snoc X2 N0 I'
 refine og T2 (mkF m 13 #[vR ra0, vR ra3] [.ref ra0, .ref ra3, .ref ra0]) (fun _ k => st2 _ (qa X2 hx hby d10_10 rfl rfl rfl (qa X2 hx hby d10_11 rfl rfl rfl (qa X2 hx hby d10_12 rfl rfl rfl k)))) ?_
 have F3 := (B'.other W2 (Or.inr (slot_ne (Or.inl (ow hw 29)) (Or.inl (ow hw 26)) (by decide) (t := (.array (.object cN1))) (t' := .int) (by decide) (by decide))))
 obtain ⟨T4, X4, e4, st4⟩ := qf X2 hx hZ hown (ow hw 28) e2 F3 (g := (mkF m 13 #[vR ra0, vR ra3] [.ref ra0, .ref ra3, .ref ra0])) rfl rfl hby d10_13
 refine og T4 (mkF m 17 #[vR ra0, vR ra3] [.ref ra0, .ref ra1, .ref ra3, .ref ra0]) (fun _ k => st4 _ (qa X4 hx hby d10_16 rfl rfl rfl k)) ?_
 have F5 := (H'.other W2 (Or.inr (slot_ne (Or.inl (ow hw 58)) (Or.inl (ow hw 26)) (by decide) (t := .int) (t' := .int) (by decide) (by decide))))
 obtain ⟨T6, X6, e6, st6⟩ := qf X4 hx hZ hown (ow hw 57) e4 F5 (g := (mkF m 17 #[vR ra0, vR ra3] [.ref ra0, .ref ra1, .ref ra3, .ref ra0])) rfl rfl hby d10_17
 refine og T6 (mkF m 20 #[vR ra0, vR ra3] [.int 8, .ref ra1, .ref ra3, .ref ra0]) st6 ?_
 have F7 := (U_ra0.wr W2)
 have F8 := (A'.wr W2)
 have F9 := (C'.wr W2)
 have F10 := (D'.wr W2)
 have F11 := (E'.other W2 (Or.inl ne_ra3_ra0))
 have F12 := (F'.other W2 ne_ra1_ra0)
 have F13 := (OLD.wr W2 I')
 obtain ⟨_, T14, L14, X14, hQ14, st14⟩ := own_pc X6 hx hZ hown (ow hw 72) (ow hw 75) (ow hw 73) (ow hw 74) F8 (rm11_71 l Z a0 hw ra0 ra1 kc2 ra3 el ee kee h2 n0 F13 EE0 FE0 VE0 F7 F8 F3 F9 F10 F11 F12 O_ra1 Fw2 F5 J' (Ne.symm ne_ra1_ra0) I') (ow hw 76) (ow hw 6) e6 (g := (mkF m 20 #[vR ra0, vR ra3] [.int 8, .ref ra1, .ref ra3, .ref ra0])) rfl (zs hml) (argsL := [.ref ra3, .ref ra1, .int 8]) (rest := []) (lenOf pd_30 rfl) rfl (hb hby d10_20) (W := 0) rfl
 obtain ⟨rfl, Nq14, K14, f15, f16, f17, f18, f19⟩ := hQ14
 have N14 := Fr.app N2 Nq14
 refine og T14 (mkF m 24 #[vR ra0, vR ra3] [.int 1]) (fun _ k => st14.trans (qc X14 hx hby d10_23 rfl k)) ?_
 have KEEP := (((Keep.refl h0 [ra0, ra1]).wr W2 (Or.inl (List.mem_of_getElem? (i := 0) rfl))).trans K14 (allS (Or.inl (List.mem_of_getElem? (i := 1) rfl)) (allS (Or.inl (List.mem_of_getElem? (i := 0) rfl)) all0)))
 exact own_leaveN X14 hlk (v := some (.int (nar .boolean (1 : Int32)))) (own_nr hret) (lb rfl) (lb rfl) (by exact ⟨rfl, N14, KEEP, f16, f17, f18, f19, f15⟩) (fun fs hr => retN X14 hx (t := .boolean) hret (by simp) (hb hby d10_24) hr)
abbrev R5_72 : Room := { frames := 9, cells := 3, slots := 20, locals := 143 }
def Q5_72 (Z : State) (ra0 ra1 ra2 : Addr) (kc3 : ClassId) (ra4 el ee : Addr) (kee : ClassId) (em mo : Addr) (h0 : Heap) (n0 : Nat) (v : Option Value) (h : Heap) (L : List Loc) : Prop := (∃ (o2 p2 : Addr) (kc2 : ClassId) (vq2 : List Value), v = none ∧ Fr n0 L ∧ Keep h0 h [ra0] ∧ h0.size ≤ o2 ∧ h0.size ≤ p2 ∧ Fld Z h ra0 cN0 "steps" "Ljava/util/List;" (.ref o2) ∧ own_Is Z h o2 cN3 ∧ Fld Z h o2 cN3 "elements" "[Ljava/lang/Object;" (.ref p2) ∧ Arv Z h p2 kc2 (.object cN1) (9 : Int32) vq2 .null)
theorem rm5_72 l Z a0 (hw : HW Z a0) ra0 ra1 ra2 kc3 ra4 el ee kee em mo h0 n0 (OLD : Old Z n0 h0) (EE0 : Exa Z Z.heap el cN3) (FE0 : Fld Z Z.heap el cN3 "elements" "[Ljava/lang/Object;" (.ref ee)) (VE0 : Arv Z Z.heap ee kee (.object cN1) (0 : Int32) [] .null) (A' : Exa Z h0 ra0 cN0) (B' : Fld Z h0 ra0 cN0 "steps" "Ljava/util/List;" .null) (U_ra1 : Unt h0 ra1) (C' : Exa Z h0 ra1 cN2) (D' : Fld Z h0 ra1 cN2 "elementData" "[Ljava/lang/Object;" (.ref ra2)) (E' : Exa Z h0 ra2 "[Ljava/lang/Object;") (F' : Exa Z h0 ra4 cN0) (G' : Fld Z h0 ra4 cN0 "steps" "Ljava/util/List;" (.ref el)) (H' : Arv Z h0 ra2 kc3 (.object cN1) (10 : Int32) (own_rn 9 ra4 1) .null) (O_ra2 : Ovr Z kc3 cN1) (I' : Fld Z h0 ra1 cN5 "modCount" "I" (.int 9)) (J' : Fld Z h0 ra1 cN2 "size" "I" (.int 9)) (EM0 : Exa Z Z.heap em cN1) (Mmo : own_Mi Z "[Ljava/lang/Object;" mo) (SM0 : Sta Z Z.heap cN7 "EMPTY" "Ljava/lang/Object;" (.ref em)) (SE0 : Sta Z Z.heap cN7 "EMPTY_LIST" "Ljava/util/ImmutableCollections$ListN;" (.ref el)) (ne_ra1_ra2 : ra1 ≠ ra2) (K' : n0 ≤ ra0) :
  own_CN l Z y41 prog_29_method_1_code 2 none [] R5_72 #[.ref ra0, .ref ra1] h0 (Q5_72 Z ra0 ra1 ra2 kc3 ra4 el ee kee em mo h0 n0) := by
 refine own_entryN (plainFor_of_name pn_8) fun p e s m below meth c s₁ hx hby hml hown hnm hret hlk hZ hh X0 e0 => ?_
 have N0 := Fr.nil n0
 rw [ef_24_12 m ra0 ra1]
 refine og s₁ (mkF m 1 #[vR ra0, vR ra1] [.ref ra0]) (fun _ k => qa X0 hx hby d5_0 rfl rfl rfl k) ?_
 obtain ⟨T1, X1, e1, st1⟩ := initO X0 hx hZ hown (ow hw 33) (ow hw 23) (ow hw 24) e0 (g := (mkF m 1 #[vR ra0, vR ra1] [.ref ra0])) rfl (zs hml) rfl (hb hby d5_1) (by decide) (W := 0) (lb rfl) (by decide)
 refine og T1 (mkF m 6 #[vR ra0, vR ra1] [.ref ra1, .ref ra0]) (fun _ k => st1 _ (qa X1 hx hby d5_4 rfl rfl rfl (qa X1 hx hby d5_5 rfl rfl rfl k))) ?_
 obtain ⟨_, T2, L2, X2, hQ2, st2⟩ := own_tc X1 hx hZ hown (ow hw 34) (ow hw 35) (own_cpl (n := 9) (m := 1) hw C' U_ra1 D' J' I' H' E' O_ra2 F' ne_ra1_ra2 (by decide) (by decide) (by decide) (SM0.ext OLD.2) (SE0.ext OLD.2) Mmo) (ow hw 37) (ow hw 36) e1 (g := (mkF m 6 #[vR ra0, vR ra1] [.ref ra1, .ref ra0])) rfl (zs hml) (argsL := [.ref ra1]) (rest := [.ref ra0]) (lenOf pd_26 rfl) rfl (hb hby d5_6) (W := 1) rfl
 obtain ⟨o2, p2, kc2, vq2, rfl, rfl, lo2, lp2, K2, I2, F2, V2⟩ := own_q3 hQ2 (by decide)
 replace V2 : Arv Z T2.heap p2 kc2 (.object cN1) (9 : Int32) vq2 .null := V2
 have N2 := Fr.app N0 (Fr.nil n0)
 have g3 : n0 ≤ o2 := Nat.le_trans (own_osz OLD) lo2
 have z4 : h0.size ≤ o2 := Nat.le_trans (Nat.le_refl _) lo2
 have g5 : n0 ≤ p2 := Nat.le_trans (own_osz OLD) lp2
 have z6 : h0.size ≤ p2 := Nat.le_trans (Nat.le_refl _) lp2
 refine ot T2 (mkF m 9 #[vR ra0, vR ra1] [.ref o2, .ref ra0]) st2 ?_
 have F7 := (A'.keep K2)
 have F8 := (B'.keep K2 nin0)
 obtain ⟨T9, h9, X9, e9, W9, st9⟩ := putF X2 hx hZ hown (host := "") (Or.inl (ow hw 63)) Via.refl rfl F8 F7 (Or.inr ⟨(ow hw 64), rfl, hnm⟩) (ow hw 2) (ty := (.object "java/util/List")) (by decide) rfl rfl (g := (mkF m 9 #[vR ra0, vR ra1] [.ref o2, .ref ra0])) rfl rfl (hb hby d5_9)
 have Fw9 := F8.same W9
 have N9 := Fr.snoc X9 N2 K'
 refine og T9 (mkF m 12 #[vR ra0, vR ra1] []) st9 ?_
 have F10 := (I2.wr W9)
 have F11 := (F2.other W9 (Or.inl (Ne.symm (own_ne_lo A'.lt lo2))))
 have F12 := (V2.other W9 (Ne.symm (own_ne_lo A'.lt lp2)))
 have KEEP := (((Keep.refl h0 [ra0]).trans K2 all0).wr W9 (Or.inl (List.mem_of_getElem? (i := 0) rfl)))
 exact own_leaveN X9 hlk (v := none) (fun _ => rfl) (lb rfl) (lb rfl) (by rw [e9]; exact ⟨o2, p2, kc2, vq2, rfl, N9, KEEP, z4, z6, Fw9, F10, F11, F12⟩) (fun fs hr => X9.returnOut hx hret (hb hby d5_12) hr)
abbrev R11_74 : Room := { frames := 0, cells := 0, slots := 0, locals := 0 }
def Q11_74 (Z : State) (ra0 ra1 : Addr) (kc2 : ClassId) (ra3 el ee : Addr) (kee : ClassId) (h0 : Heap) (n0 : Nat) (v : Option Value) (h : Heap) (L : List Loc) : Prop := (v = none ∧ Fr n0 L ∧ Keep h0 h [ra1, ra0] ∧ Arv Z h ra1 kc2 (.object cN1) (10 : Int32) (own_rn 10 ra3 0) .null ∧ Unt h ra0 ∧ Fld Z h ra0 cN2 "elementData" "[Ljava/lang/Object;" (.ref ra1) ∧ Fld Z h ra0 cN5 "modCount" "I" (.int 10) ∧ Fld Z h ra0 cN2 "size" "I" (.int 10))
theorem rm11_74 l Z a0 (hw : HW Z a0) ra0 ra1 kc2 ra3 el ee kee h0 n0 (OLD : Old Z n0 h0) (EE0 : Exa Z Z.heap el cN3) (FE0 : Fld Z Z.heap el cN3 "elements" "[Ljava/lang/Object;" (.ref ee)) (VE0 : Arv Z Z.heap ee kee (.object cN1) (0 : Int32) [] .null) (U_ra0 : Unt h0 ra0) (A' : Exa Z h0 ra0 cN2) (B' : Fld Z h0 ra0 cN2 "elementData" "[Ljava/lang/Object;" (.ref ra1)) (C' : Exa Z h0 ra1 "[Ljava/lang/Object;") (D' : Exa Z h0 ra3 cN0) (E' : Fld Z h0 ra3 cN0 "steps" "Ljava/util/List;" (.ref el)) (F' : Arv Z h0 ra1 kc2 (.object cN1) (10 : Int32) (own_rn 9 ra3 1) .null) (O_ra1 : Ovr Z kc2 cN1) (G' : Fld Z h0 ra0 cN5 "modCount" "I" (.int 10)) (H' : Fld Z h0 ra0 cN2 "size" "I" (.int 9)) (I' : n0 ≤ ra1) (ne_ra0_ra1 : ra0 ≠ ra1) (J' : n0 ≤ ra0) :
  own_CN l Z y44 jdk_38_method_24_code 4 none [] R11_74 #[.ref ra0, .ref ra3, .ref ra1, .int 9] h0 (Q11_74 Z ra0 ra1 kc2 ra3 el ee kee h0 n0) := by
 refine own_entryN (plainFor_of_name pn_11) fun p e s m below meth c s₁ hx hby hml hown hnm hret hlk hZ hh X0 e0 => ?_
 have N0 := Fr.nil n0
 rw [ef_11_74 m ra0 ra3 ra1]
 refine og s₁ (mkF m 2 #[vR ra0, vR ra3, vR ra1, vI 9] [.ref ra1, .int 9]) (fun _ k => qi X0 hx hby d11_0 rfl rfl (qa X0 hx hby d11_1 rfl rfl rfl k)) ?_
 obtain ⟨cl1, Ar1, -, Sr1, Nr1, -, -⟩ := id F'
 refine og s₁ (mkF m 3 #[vR ra0, vR ra3, vR ra1, vI 9] [.int 10, .int 9]) (fun t k => X0.arraylength hx (by rw [e0]; exact Ar1.1) (State.isArrayOf_alike hZ.alike Ar1.2.1) (g := (mkF m 2 #[vR ra0, vR ra3, vR ra1, vI 9] [.ref ra1, .int 9])) rfl rfl (hb hby d11_2) t (by rw [len_of Sr1 Nr1]; exact k)) ?_
 refine og s₁ (mkF m 14 #[vR ra0, vR ra3, vR ra1, vI 9] [.ref ra3, .int 9, .ref ra1]) (fun _ k => XS.icmpYes X0.here hx rfl (pc0 := 3) (pc' := 11) rfl (hb hby d11_3) rfl (feq (by decide : ¬ ((9 : Int32) = (10 : Int32)))).2 (by decide) (by decide) (qa X0 hx hby d11_11 rfl rfl rfl (qi X0 hx hby d11_12 rfl rfl (qa X0 hx hby d11_13 rfl rfl rfl k)))) ?_
 obtain ⟨cl2, Ar2, qr2, Sr2, Nr2, Hr2, Gr2⟩ := id F'
 obtain ⟨T2, h2, X2, e2, W2, st2⟩ := stR X0 hx hZ e0 Ar2 (j := (9 : Int32)) (inb_of Sr2 ⟨by decide, by decide⟩) rfl (Sto.ofV Ar2 qr2 O_ra1 (Ins.of_exa D' (ow hw 93))) (g := (mkF m 14 #[vR ra0, vR ra3, vR ra1, vI 9] [.ref ra3, .int 9, .ref ra1])) rfl rfl (hb hby d11_14)
 have V2 : Arv Z h2 ra1 kc2 (.object cN1) (10 : Int32) (own_rn 10 ra3 0) .null := Arv.set Ar2 qr2 Sr2 Nr2 Hr2 Gr2 rfl W2 9 rfl (lb rfl)
 have N2 := Fr.snoc X2 N0 I'
 refine og T2 (mkF m 19 #[vR ra0, vR ra3, vR ra1, vI 9] [.int 10, .ref ra0]) (fun _ k => st2 _ (qa X2 hx hby d11_15 rfl rfl rfl (qi X2 hx hby d11_16 rfl rfl (qc X2 hx hby d11_17 rfl (qp X2 hx hby d11_18 rfl rfl k))))) ?_
 have F3 := (A'.wr W2)
 have F4 := (H'.other W2 (Or.inl ne_ra0_ra1))
 obtain ⟨T5, h5, X5, e5, W5, st5⟩ := putF X2 hx hZ hown (host := "") (Or.inl (ow hw 57)) Via.refl e2 F4 F3 (Or.inl (ow hw 58)) (ow hw 5) (ty := .int) (by decide) rfl rfl (g := (mkF m 19 #[vR ra0, vR ra3, vR ra1, vI 9] [.int 10, .ref ra0])) rfl rfl (hb hby d11_19)
 have Fw5 := F4.same W5
 have N5 := Fr.snoc X5 N2 J'
 refine og T5 (mkF m 22 #[vR ra0, vR ra3, vR ra1, vI 9] []) st5 ?_
 have F6 := (V2.other W5 (Ne.symm ne_ra0_ra1))
 have F7 := ((U_ra0.wr W2).wr W5)
 have F8 := ((B'.other W2 (Or.inl ne_ra0_ra1)).other W5 (Or.inr (slot_ne (Or.inl (ow hw 29)) (Or.inl (ow hw 58)) (by decide) (t := (.array (.object cN1))) (t' := .int) (by decide) (by decide))))
 have F9 := ((G'.other W2 (Or.inl ne_ra0_ra1)).other W5 (Or.inr (slot_ne (Or.inl (ow hw 26)) (Or.inl (ow hw 58)) (by decide) (t := .int) (t' := .int) (by decide) (by decide))))
 have KEEP := (((Keep.refl h0 [ra1, ra0]).wr W2 (Or.inl (List.mem_of_getElem? (i := 0) rfl))).wr W5 (Or.inl (List.mem_of_getElem? (i := 1) rfl)))
 exact own_leaveN X5 hlk (v := none) (fun _ => rfl) (lb rfl) (lb rfl) (by rw [e5]; exact ⟨rfl, N5, KEEP, F6, F7, F8, F9, Fw5⟩) (fun fs hr => X5.returnOut hx hret (hb hby d11_22) hr)
abbrev R10_73 : Room := { frames := 1, cells := 0, slots := 0, locals := 15 }
def Q10_73 (Z : State) (ra0 ra1 : Addr) (kc2 : ClassId) (ra3 el ee : Addr) (kee : ClassId) (h0 : Heap) (n0 : Nat) (v : Option Value) (h : Heap) (L : List Loc) : Prop := (v = some (.int 1) ∧ Fr n0 L ∧ Keep h0 h [ra0, ra1] ∧ Unt h ra0 ∧ Fld Z h ra0 cN2 "elementData" "[Ljava/lang/Object;" (.ref ra1) ∧ Fld Z h ra0 cN5 "modCount" "I" (.int 10) ∧ Fld Z h ra0 cN2 "size" "I" (.int 10) ∧ Arv Z h ra1 kc2 (.object cN1) (10 : Int32) (own_rn 10 ra3 0) .null)
theorem rm10_73 l Z a0 (hw : HW Z a0) ra0 ra1 kc2 ra3 el ee kee h0 n0 (OLD : Old Z n0 h0) (EE0 : Exa Z Z.heap el cN3) (FE0 : Fld Z Z.heap el cN3 "elements" "[Ljava/lang/Object;" (.ref ee)) (VE0 : Arv Z Z.heap ee kee (.object cN1) (0 : Int32) [] .null) (U_ra0 : Unt h0 ra0) (A' : Exa Z h0 ra0 cN2) (B' : Fld Z h0 ra0 cN2 "elementData" "[Ljava/lang/Object;" (.ref ra1)) (C' : Exa Z h0 ra1 "[Ljava/lang/Object;") (D' : Exa Z h0 ra3 cN0) (E' : Fld Z h0 ra3 cN0 "steps" "Ljava/util/List;" (.ref el)) (F' : Arv Z h0 ra1 kc2 (.object cN1) (10 : Int32) (own_rn 9 ra3 1) .null) (O_ra1 : Ovr Z kc2 cN1) (G' : Fld Z h0 ra0 cN5 "modCount" "I" (.int 9)) (H' : Fld Z h0 ra0 cN2 "size" "I" (.int 9)) (I' : n0 ≤ ra0) (ne_ra3_ra0 : ra3 ≠ ra0) (ne_ra1_ra0 : ra1 ≠ ra0) (J' : n0 ≤ ra1) :
  own_CN l Z y45 jdk_38_method_25_code 2 (some .boolean) [] R10_73 #[.ref ra0, .ref ra3] h0 (Q10_73 Z ra0 ra1 kc2 ra3 el ee kee h0 n0) := by
 refine own_entryN (plainFor_of_name pn_11) fun p e s m below meth c s₁ hx hby hml hown hnm hret hlk hZ hh X0 e0 => ?_
 have N0 := Fr.nil n0
 rw [ef_24_12 m ra0 ra3]
 refine og s₁ (mkF m 2 #[vR ra0, vR ra3] [.ref ra0, .ref ra0]) (fun _ k => qa X0 hx hby d10_0 rfl rfl rfl (XS.dup X0.here hx rfl (hb hby d10_1) rfl rfl k)) ?_
 obtain ⟨T1, X1, e1, st1⟩ := getF X0 hx hZ hown (host := "") (Or.inl (ow hw 70)) (Via.of (ow hw 71)) e0 G' (g := (mkF m 2 #[vR ra0, vR ra3] [.ref ra0, .ref ra0])) rfl rfl (hb hby d10_2)
 refine og T1 (mkF m 7 #[vR ra0, vR ra3] [.int 10, .ref ra0]) (fun _ k => st1 _ (qc X1 hx hby d10_5 rfl (qp X1 hx hby d10_6 rfl rfl k))) ?_
 obtain ⟨T2, h2, X2, e2, W2, st2⟩ := putF X1 hx hZ hown (host := "") (Or.inl (ow hw 70)) (Via.of (ow hw 71)) e1 G' A' (Or.inl (ow hw 26)) (ow hw 5) (ty := .int) (by decide) rfl rfl (g := (mkF m 7 #[vR ra0, vR ra3] [.int 10, .ref ra0])) rfl rfl (hb hby d10_7)
 have Fw2 := G'.same W2
 have N2 := Fr.snoc X2 N0 I'
 refine og T2 (mkF m 13 #[vR ra0, vR ra3] [.ref ra0, .ref ra3, .ref ra0]) (fun _ k => st2 _ (qa X2 hx hby d10_10 rfl rfl rfl (qa X2 hx hby d10_11 rfl rfl rfl (qa X2 hx hby d10_12 rfl rfl rfl k)))) ?_
 have F3 := (B'.other W2 (Or.inr (slot_ne (Or.inl (ow hw 29)) (Or.inl (ow hw 26)) (by decide) (t := (.array (.object cN1))) (t' := .int) (by decide) (by decide))))
 obtain ⟨T4, X4, e4, st4⟩ := qf X2 hx hZ hown (ow hw 28) e2 F3 (g := (mkF m 13 #[vR ra0, vR ra3] [.ref ra0, .ref ra3, .ref ra0])) rfl rfl hby d10_13
 refine og T4 (mkF m 17 #[vR ra0, vR ra3] [.ref ra0, .ref ra1, .ref ra3, .ref ra0]) (fun _ k => st4 _ (qa X4 hx hby d10_16 rfl rfl rfl k)) ?_
 have F5 := (H'.other W2 (Or.inr (slot_ne (Or.inl (ow hw 58)) (Or.inl (ow hw 26)) (by decide) (t := .int) (t' := .int) (by decide) (by decide))))
 obtain ⟨T6, X6, e6, st6⟩ := qf X4 hx hZ hown (ow hw 57) e4 F5 (g := (mkF m 17 #[vR ra0, vR ra3] [.ref ra0, .ref ra1, .ref ra3, .ref ra0])) rfl rfl hby d10_17
 refine og T6 (mkF m 20 #[vR ra0, vR ra3] [.int 9, .ref ra1, .ref ra3, .ref ra0]) st6 ?_
 have F7 := (U_ra0.wr W2)
 have F8 := (A'.wr W2)
 have F9 := (C'.wr W2)
 have F10 := (D'.wr W2)
 have F11 := (E'.other W2 (Or.inl ne_ra3_ra0))
 have F12 := (F'.other W2 ne_ra1_ra0)
 have F13 := (OLD.wr W2 I')
 obtain ⟨_, T14, L14, X14, hQ14, st14⟩ := own_pc X6 hx hZ hown (ow hw 72) (ow hw 75) (ow hw 73) (ow hw 74) F8 (rm11_74 l Z a0 hw ra0 ra1 kc2 ra3 el ee kee h2 n0 F13 EE0 FE0 VE0 F7 F8 F3 F9 F10 F11 F12 O_ra1 Fw2 F5 J' (Ne.symm ne_ra1_ra0) I') (ow hw 76) (ow hw 6) e6 (g := (mkF m 20 #[vR ra0, vR ra3] [.int 9, .ref ra1, .ref ra3, .ref ra0])) rfl (zs hml) (argsL := [.ref ra3, .ref ra1, .int 9]) (rest := []) (lenOf pd_30 rfl) rfl (hb hby d10_20) (W := 0) rfl
 obtain ⟨rfl, Nq14, K14, f15, f16, f17, f18, f19⟩ := hQ14
 have N14 := Fr.app N2 Nq14
 refine og T14 (mkF m 24 #[vR ra0, vR ra3] [.int 1]) (fun _ k => st14.trans (qc X14 hx hby d10_23 rfl k)) ?_
 have KEEP := (((Keep.refl h0 [ra0, ra1]).wr W2 (Or.inl (List.mem_of_getElem? (i := 0) rfl))).trans K14 (allS (Or.inl (List.mem_of_getElem? (i := 1) rfl)) (allS (Or.inl (List.mem_of_getElem? (i := 0) rfl)) all0)))
 exact own_leaveN X14 hlk (v := some (.int (nar .boolean (1 : Int32)))) (own_nr hret) (lb rfl) (lb rfl) (by exact ⟨rfl, N14, KEEP, f16, f17, f18, f19, f15⟩) (fun fs hr => retN X14 hx (t := .boolean) hret (by simp) (hb hby d10_24) hr)
abbrev R14_80 : Room := { frames := 0, cells := 0, slots := 0, locals := 0 }
def Q14_80 (Z : State)  (h0 : Heap) (n0 : Nat) (v : Option Value) (h : Heap) (L : List Loc) : Prop := (v = some (.int 5) ∧ Fr n0 L ∧ h = h0)
theorem rm14_80 l Z a0 (hw : HW Z a0)  h0 n0 (OLD : Old Z n0 h0) :
  own_CN l Z y16 jdk_29_method_65_code 2 (some .int) [] R14_80 #[.int 1, .int 5] h0 (Q14_80 Z  h0 n0) := by
 refine own_entryN (Jvm.Free.JP.mathPlain rfl (by decide +kernel)) fun p e s m below meth c s₁ hx hby hml hown hnm hret hlk hZ hh X0 e0 => ?_
 have N0 := Fr.nil n0
 rw [ef_14_80 m ]
 refine og s₁ (mkF m 10 #[vI 1, vI 5] [.int 5]) (fun _ k => qi X0 hx hby d14_0 rfl rfl (qi X0 hx hby d14_1 rfl rfl (XS.icmpYes X0.here hx rfl (pc0 := 2) (pc' := 9) rfl (hb hby d14_2) rfl (tlt (by decide : (1 : Int32) < (5 : Int32))).1 (by decide) (by decide) (qi X0 hx hby d14_9 rfl rfl k)))) ?_
 exact own_leaveN X0 hlk (v := some (.int 5)) (own_nr hret) (lb rfl) (lb rfl) (by rw [e0]; exact ⟨rfl, N0, rfl⟩) (fun fs hr => retI X0 hx hret (hb hby d14_10) hr)
abbrev R33_79 : Room := { frames := 1, cells := 0, slots := 0, locals := 14 }
def Q33_79 (Z : State)  (h0 : Heap) (n0 : Nat) (v : Option Value) (h : Heap) (L : List Loc) : Prop := (v = some (.int 15) ∧ Fr n0 L ∧ h = h0)
theorem rm33_79 l Z a0 (hw : HW Z a0)  h0 n0 (OLD : Old Z n0 h0) :
  own_CN l Z y17 jdk_48_method_27_code 4 (some .int) [] R33_79 #[.int 10, .int 1, .int 5] h0 (Q33_79 Z  h0 n0) := by
 refine own_entryN (plainFor_of_name pn_6) fun p e s m below meth c s₁ hx hby hml hown hnm hret hlk hZ hh X0 e0 => ?_
 have N0 := Fr.nil n0
 rw [ef_33_79 m ]
 refine og s₁ (mkF m 3 #[vI 10, vI 1, vI 5, vU] [.int 5, .int 1, .int 10]) (fun _ k => qi X0 hx hby d33_0 rfl rfl (qi X0 hx hby d33_1 rfl rfl (qi X0 hx hby d33_2 rfl rfl k))) ?_
 obtain ⟨_, T1, L1, X1, hQ1, st1⟩ := own_tc X0 hx hZ hown (ow hw 219) (ow hw 88) (rm14_80 l Z a0 hw  h0 n0 OLD ) (ow hw 90) (ow hw 89) e0 (g := (mkF m 3 #[vI 10, vI 1, vI 5, vU] [.int 5, .int 1, .int 10])) rfl (zs hml) (argsL := [.int 1, .int 5]) (rest := [.int 10]) (lenOf pd_13 rfl) rfl (hb hby d33_3) (W := 1) rfl
 obtain ⟨rfl, Nq1, eq1⟩ := hQ1
 have N1 := Fr.app N0 Nq1
 refine og T1 (mkF m 14 #[vI 10, vI 1, vI 5, vI 15] [.int 15]) (fun _ k => st1.trans (qp X1 hx hby d33_6 rfl rfl (XS.istoreN X1.here hx rfl (hb hby d33_7) rfl (l' := #[vI 10, vI 1, vI 5, vI 15]) rfl (qc X1 hx hby d33_8 rfl (qi X1 hx hby d33_9 rfl rfl (qn X1 hx hby d33_10 rfl rfl (tlt (by decide : (0 : Int32) < (15 : Int32))).2.1 (qi X1 hx hby d33_13 rfl rfl k))))))) ?_
 refine og T1 (mkF m 16 #[vI 10, vI 1, vI 5, vI 15] [.int 2147483639, .int 15]) (fun t k => X1.ldcInt hx hown (mvT hZ (ow hw 220)) (g := (mkF m 14 #[vI 10, vI 1, vI 5, vI 15] [.int 15])) rfl (hb hby d33_14) t k) ?_
 refine og T1 (mkF m 20 #[vI 10, vI 1, vI 5, vI 15] [.int 15]) (fun _ k => qn X1 hx hby d33_16 rfl rfl (flt (by decide : ¬ ((2147483639 : Int32) < (15 : Int32)))).2.2.1 (qi X1 hx hby d33_19 rfl rfl k)) ?_
 exact own_leaveN X1 hlk (v := some (.int 15)) (own_nr hret) (lb rfl) (lb rfl) (by rw [eq1]; exact ⟨rfl, N1, rfl⟩) (fun fs hr => retI X1 hx hret (hb hby d33_20) hr)
abbrev R35_83 : Room := { frames := 0, cells := 0, slots := 0, locals := 0 }
def Q35_83 (Z : State)  (h0 : Heap) (n0 : Nat) (v : Option Value) (h : Heap) (L : List Loc) : Prop := (v = some (.int 10) ∧ Fr n0 L ∧ h = h0)
theorem rm35_83 l Z a0 (hw : HW Z a0)  h0 n0 (OLD : Old Z n0 h0) :
  own_CN l Z y19 jdk_29_method_69_code 2 (some .int) [] R35_83 #[.int 10, .int 15] h0 (Q35_83 Z  h0 n0) := by
 refine own_entryN (Jvm.Free.JP.mathPlain rfl (by decide +kernel)) fun p e s m below meth c s₁ hx hby hml hown hnm hret hlk hZ hh X0 e0 => ?_
 have N0 := Fr.nil n0
 rw [ef_35_83 m ]
 refine og s₁ (mkF m 10 #[vI 10, vI 15] [.int 10]) (fun _ k => qi X0 hx hby d35_0 rfl rfl (qi X0 hx hby d35_1 rfl rfl (qn X0 hx hby d35_2 rfl rfl (flt (by decide : ¬ ((15 : Int32) < (10 : Int32)))).2.2.1 (qi X0 hx hby d35_5 rfl rfl (XS.goto X0.here hx rfl (pc0 := 6) (pc' := 10) rfl (hb hby d35_6) (by decide) (by decide) k))))) ?_
 exact own_leaveN X0 hlk (v := some (.int 10)) (own_nr hret) (lb rfl) (lb rfl) (by rw [e0]; exact ⟨rfl, N0, rfl⟩) (fun fs hr => retI X0 hx hret (hb hby d35_10) hr)
abbrev R54_82 : Room := { frames := 1, cells := 1, slots := 15, locals := 18 }
def Q54_82 (Z : State) (ra0 : Addr) (kc1 : ClassId) (ra2 el ee : Addr) (kee : ClassId) (mo : Addr) (h0 : Heap) (n0 : Nat) (v : Option Value) (h : Heap) (L : List Loc) : Prop := (∃ (b2 : Addr) (k2 : ClassId), v = some (.ref b2) ∧ Fr n0 L ∧ Keep h0 h [] ∧ h0.size ≤ b2 ∧ Exa Z h b2 "[Ljava/lang/Object;" ∧ Arv Z h b2 k2 (.object cN1) (15 : Int32) (own_rn 10 ra2 5) .null ∧ Ovr Z k2 cN1)
theorem rm54_82 l Z a0 (hw : HW Z a0) ra0 kc1 ra2 el ee kee mo h0 n0 (OLD : Old Z n0 h0) (EE0 : Exa Z Z.heap el cN3) (FE0 : Fld Z Z.heap el cN3 "elements" "[Ljava/lang/Object;" (.ref ee)) (VE0 : Arv Z Z.heap ee kee (.object cN1) (0 : Int32) [] .null) (Mmo : own_Mi Z "[Ljava/lang/Object;" mo) (A' : Exa Z h0 ra0 "[Ljava/lang/Object;") (B' : Exa Z h0 ra2 cN0) (C' : Fld Z h0 ra2 cN0 "steps" "Ljava/util/List;" (.ref el)) (D' : Arv Z h0 ra0 kc1 (.object cN1) (10 : Int32) (own_rn 10 ra2 0) .null) (O_ra0 : Ovr Z kc1 cN1) :
  own_CN l Z y46 jdk_65_method_120_code 4 (some (.array (.object cN1))) [] R54_82 #[.ref ra0, .int 15, .ref mo] h0 (Q54_82 Z ra0 kc1 ra2 el ee kee mo h0 n0) := by
 refine own_entryN (plainFor_of_name pn_7) fun p e s m below meth c s₁ hx hby hml hown hnm hret hlk hZ hh X0 e0 => ?_
 have N0 := Fr.nil n0
 rw [ef_54_82 m ra0 mo]
 refine og s₁ (mkF m 1 #[vR ra0, vI 15, vR mo, vU] [.ref mo]) (fun _ k => qa X0 hx hby d54_0 rfl rfl rfl k) ?_
 obtain ⟨T1, X1, e1, st1⟩ := own_ldm X0 hx hZ hown (ow hw 315) e0 Mmo (g := (mkF m 1 #[vR ra0, vI 15, vR mo, vU] [.ref mo])) rfl (hb hby d54_1)
 refine og T1 (mkF m 7 #[vR ra0, vI 15, vR mo, vU] [.int 15]) (fun _ k => st1 _ (Jvm.RoadKit.acmp (g := (mkF m 3 #[vR ra0, vI 15, vR mo, vU] [.ref mo, .ref mo])) X1 hx rfl rfl rfl (pc0 := 3) (pc' := 6) (same := true) rfl (hb hby d54_3) rfl (decide_eq_true rfl) (by decide) (by decide) (qi X1 hx hby d54_6 rfl rfl k))) ?_
 obtain ⟨T2, h2, k2, X2, e2, E2, A2, Ea2, O2, st2⟩ := newRE X1 hx hZ hown (ow hw 316) (ow hw 92) e1 (g := (mkF m 7 #[vR ra0, vI 15, vR mo, vU] [.int 15])) rfl (hb hby d54_7) rfl (by decide) (cap := 15) (by decide) (lb rfl) (lb rfl) (lb rfl) (ad := "[Ljava/lang/Object;") (by decide)
 obtain ⟨b2, gb2⟩ : ∃ z, z = h0.size := ⟨_, rfl⟩
 rw [← gb2] at A2 Ea2 st2
 have g3 : n0 ≤ b2 := Nat.le_trans (own_osz OLD) (Nat.le_of_eq gb2.symm)
 have z4 : h0.size ≤ b2 := Nat.le_trans (Nat.le_refl _) (Nat.le_of_eq gb2.symm)
 have V2 : Arv Z h2 b2 k2 (.object cN1) (15 : Int32) (own_rn 0 0 15) .null := (Arv.new A2 (by decide)).pad (pad_rep [] .null 15)
 refine og T2 (mkF m 30 #[vR ra0, vI 15, vR mo, vR b2] [.ref ra0, .int 0, .ref b2, .int 0, .ref ra0]) (fun _ k => st2 _ (XS.goto X2.here hx rfl (pc0 := 10) (pc' := 24) rfl (hb hby d54_10) (by decide) (by decide) (XS.astoreN X2.here hx rfl (hb hby d54_24) rfl rfl (l' := #[vR ra0, vI 15, vR mo, vR b2]) rfl (qa X2 hx hby d54_25 rfl rfl rfl (qc X2 hx hby d54_26 rfl (qa X2 hx hby d54_27 rfl rfl rfl (qc X2 hx hby d54_28 rfl (qa X2 hx hby d54_29 rfl rfl rfl k)))))))) ?_
 have F5 := (D'.ext E2)
 obtain ⟨cl6, Ar6, -, Sr6, Nr6, -, -⟩ := id F5
 refine og T2 (mkF m 31 #[vR ra0, vI 15, vR mo, vR b2] [.int 10, .int 0, .ref b2, .int 0, .ref ra0]) (fun t k => X2.arraylength hx (by rw [e2]; exact Ar6.1) (State.isArrayOf_alike hZ.alike Ar6.2.1) (g := (mkF m 30 #[vR ra0, vI 15, vR mo, vR b2] [.ref ra0, .int 0, .ref b2, .int 0, .ref ra0])) rfl rfl (hb hby d54_30) t (by rw [len_of Sr6 Nr6]; exact k)) ?_
 refine og T2 (mkF m 32 #[vR ra0, vI 15, vR mo, vR b2] [.int 15, .int 10, .int 0, .ref b2, .int 0, .ref ra0]) (fun _ k => qi X2 hx hby d54_31 rfl rfl k) ?_
 have F7 := (OLD.ext E2)
 obtain ⟨_, T8, L8, X8, hQ8, st8⟩ := own_tc X2 hx hZ hown (ow hw 226) (ow hw 227) (rm35_83 l Z a0 hw  h2 n0 F7 ) (ow hw 228) (ow hw 89) e2 (g := (mkF m 32 #[vR ra0, vI 15, vR mo, vR b2] [.int 15, .int 10, .int 0, .ref b2, .int 0, .ref ra0])) rfl (zs hml) (argsL := [.int 10, .int 15]) (rest := [.int 0, .ref b2, .int 0, .ref ra0]) (lenOf pd_13 rfl) rfl (hb hby d54_32) (W := 4) rfl
 obtain ⟨rfl, Nq8, eq8⟩ := hQ8
 have N8 := Fr.app N0 Nq8
 refine ot T8 (mkF m 35 #[vR ra0, vI 15, vR mo, vR b2] [.int 10, .int 0, .ref b2, .int 0, .ref ra0]) st8 ?_
 have F10 := (B'.ext E2)
 obtain ⟨_, q11, q11', -⟩ := id V2
 obtain ⟨_, q12, q12', -⟩ := id V2
 obtain ⟨_, q13, q13', -⟩ := id V2
 obtain ⟨_, q14, q14', -⟩ := id V2
 obtain ⟨_, q15, q15', -⟩ := id V2
 obtain ⟨_, q16, q16', -⟩ := id V2
 obtain ⟨_, q17, q17', -⟩ := id V2
 obtain ⟨_, q18, q18', -⟩ := id V2
 obtain ⟨_, q19, q19', -⟩ := id V2
 obtain ⟨_, q20, q20', -⟩ := id V2
 obtain ⟨T9, h9, L9, X9, e9, N9, K9, Vq9, st9⟩ := cpA X8 hx hZ hown (ow hw 229) (ow hw 174) (ow hw 172) (ow hw 173) eq8 F5 V2 (us := (own_rn 10 ra2 0)) (Or.inr ⟨rfl, rfl, ⟨(Sto.ofV q20 q20' O2 (Ins.of_exa F10 (ow hw 93))), ⟨(Sto.ofV q19 q19' O2 (Ins.of_exa F10 (ow hw 93))), ⟨(Sto.ofV q18 q18' O2 (Ins.of_exa F10 (ow hw 93))), ⟨(Sto.ofV q17 q17' O2 (Ins.of_exa F10 (ow hw 93))), ⟨(Sto.ofV q16 q16' O2 (Ins.of_exa F10 (ow hw 93))), ⟨(Sto.ofV q15 q15' O2 (Ins.of_exa F10 (ow hw 93))), ⟨(Sto.ofV q14 q14' O2 (Ins.of_exa F10 (ow hw 93))), ⟨(Sto.ofV q13 q13' O2 (Ins.of_exa F10 (ow hw 93))), ⟨(Sto.ofV q12 q12' O2 (Ins.of_exa F10 (ow hw 93))), ⟨(Sto.ofV q11 q11' O2 (Ins.of_exa F10 (ow hw 93))), trivial⟩⟩⟩⟩⟩⟩⟩⟩⟩⟩⟩) (by decide) (by decide) (by decide) (by decide) (by decide) rfl (by decide) N8 g3 (g := (mkF m 35 #[vR ra0, vI 15, vR mo, vR b2] [.int 10, .int 0, .ref b2, .int 0, .ref ra0])) rfl (zs hml) rfl (hb hby d54_35) (lb rfl) (W := 0) (lb rfl) (lb rfl)
 have V9 : Arv Z h9 b2 k2 (.object cN1) (15 : Int32) (own_rn 10 ra2 5) .null := Vq9
 refine og T9 (mkF m 39 #[vR ra0, vI 15, vR mo, vR b2] [.ref b2]) (fun _ k => st9 _ (qa X9 hx hby d54_38 rfl rfl rfl k)) ?_
 have F21 := (Ea2.keep K9)
 have KEEP := (((Keep.refl h0 []).ext E2).trans K9 (allS (Or.inr z4) all0))
 exact own_leaveN X9 hlk (v := some (.ref b2)) (own_nr hret) (lb rfl) (lb rfl) (by rw [e9]; exact ⟨b2, k2, rfl, N9, KEEP, z4, F21, V9, O2⟩) (own_ra X9 hx hret rfl rfl rfl (hb hby d54_39))
abbrev R53_81 : Room := { frames := 2, cells := 1, slots := 15, locals := 33 }
def Q53_81 (Z : State) (ra0 : Addr) (kc1 : ClassId) (ra2 el ee : Addr) (kee : ClassId) (mo : Addr) (h0 : Heap) (n0 : Nat) (v : Option Value) (h : Heap) (L : List Loc) : Prop := (∃ (o3 : Addr) (kc4 : ClassId), v = some (.ref o3) ∧ Fr n0 L ∧ Keep h0 h [] ∧ h0.size ≤ o3 ∧ Exa Z h o3 "[Ljava/lang/Object;" ∧ Arv Z h o3 kc4 (.object cN1) (15 : Int32) (own_rn 10 ra2 5) .null ∧ Ovr Z kc4 cN1)
theorem rm53_81 l Z a0 (hw : HW Z a0) ra0 kc1 ra2 el ee kee mo h0 n0 (OLD : Old Z n0 h0) (EE0 : Exa Z Z.heap el cN3) (FE0 : Fld Z Z.heap el cN3 "elements" "[Ljava/lang/Object;" (.ref ee)) (VE0 : Arv Z Z.heap ee kee (.object cN1) (0 : Int32) [] .null) (A' : Exa Z h0 ra0 "[Ljava/lang/Object;") (B' : Exa Z h0 ra2 cN0) (C' : Fld Z h0 ra2 cN0 "steps" "Ljava/util/List;" (.ref el)) (D' : Arv Z h0 ra0 kc1 (.object cN1) (10 : Int32) (own_rn 10 ra2 0) .null) (O_ra0 : Ovr Z kc1 cN1) (Mmo : own_Mi Z "[Ljava/lang/Object;" mo) :
  own_CN l Z y47 jdk_65_method_119_code 2 (some (.array (.object cN1))) [] R53_81 #[.ref ra0, .int 15] h0 (Q53_81 Z ra0 kc1 ra2 el ee kee mo h0 n0) := by
 refine own_entryN (plainFor_of_name pn_7) fun p e s m below meth c s₁ hx hby hml hown hnm hret hlk hZ hh X0 e0 => ?_
 have N0 := Fr.nil n0
 rw [ef_53_81 m ra0]
 refine og s₁ (mkF m 3 #[vR ra0, vI 15] [.ref ra0, .int 15, .ref ra0]) (fun _ k => qa X0 hx hby d53_0 rfl rfl rfl (qi X0 hx hby d53_1 rfl rfl (qa X0 hx hby d53_2 rfl rfl rfl k))) ?_
 obtain ⟨T1, X1, e1, st1⟩ := own_gcls X0 hx hZ hown (ow hw 306) (ow hw 307) (ow hw 46) (ow hw 309) (ow hw 308) (ow hw 310) e0 A' Mmo (g := (mkF m 3 #[vR ra0, vI 15] [.ref ra0, .int 15, .ref ra0])) rfl (zs hml) (rest := [.int 15, .ref ra0]) rfl (hb hby d53_3) (lb rfl) (W := 2) (lb rfl) (lb rfl)
 refine og T1 (mkF m 6 #[vR ra0, vI 15] [.ref mo, .int 15, .ref ra0]) st1 ?_
 obtain ⟨_, T2, L2, X2, hQ2, st2⟩ := own_tc X1 hx hZ hown (ow hw 312) (ow hw 313) (rm54_82 l Z a0 hw ra0 kc1 ra2 el ee kee mo h0 n0 OLD EE0 FE0 VE0 Mmo A' B' C' D' O_ra0) (ow hw 314) (ow hw 224) e1 (g := (mkF m 6 #[vR ra0, vI 15] [.ref mo, .int 15, .ref ra0])) rfl (zs hml) (argsL := [.ref ra0, .int 15, .ref mo]) (rest := []) (lenOf pd_31 rfl) rfl (hb hby d53_6) (W := 0) rfl
 obtain ⟨o3, kc4, rfl, Nq2, K2, f5, f6, f7, f8⟩ := hQ2
 have N2 := Fr.app N0 Nq2
 have g9 : n0 ≤ o3 := Nat.le_trans (own_osz OLD) f5
 have z10 : h0.size ≤ o3 := Nat.le_trans (Nat.le_refl _) f5
 refine ot T2 (mkF m 9 #[vR ra0, vI 15] [.ref o3]) st2 ?_
 have KEEP := ((Keep.refl h0 []).trans K2 all0)
 exact own_leaveN X2 hlk (v := some (.ref o3)) (own_nr hret) (lb rfl) (lb rfl) (by exact ⟨o3, kc4, rfl, N2, KEEP, z10, f6, f7, f8⟩) (own_ra X2 hx hret rfl rfl rfl (hb hby d53_9))
abbrev R13_78 : Room := { frames := 3, cells := 1, slots := 15, locals := 47 }
def Q13_78 (Z : State) (ra0 ra1 : Addr) (kc2 : ClassId) (ra3 el ee : Addr) (kee : ClassId) (mo : Addr) (h0 : Heap) (n0 : Nat) (v : Option Value) (h : Heap) (L : List Loc) : Prop := (∃ (o6 : Addr) (kc7 : ClassId), v = some (.ref o6) ∧ Fr n0 L ∧ Keep h0 h [ra0] ∧ h0.size ≤ o6 ∧ Unt h ra0 ∧ Fld Z h ra0 cN2 "elementData" "[Ljava/lang/Object;" (.ref o6) ∧ Fld Z h ra0 cN5 "modCount" "I" (.int 11) ∧ Fld Z h ra0 cN2 "size" "I" (.int 10) ∧ Exa Z h o6 "[Ljava/lang/Object;" ∧ Arv Z h o6 kc7 (.object cN1) (15 : Int32) (own_rn 10 ra3 5) .null ∧ Ovr Z kc7 cN1)
theorem rm13_78 l Z a0 (hw : HW Z a0) ra0 ra1 kc2 ra3 el ee kee mo h0 n0 (OLD : Old Z n0 h0) (EE0 : Exa Z Z.heap el cN3) (FE0 : Fld Z Z.heap el cN3 "elements" "[Ljava/lang/Object;" (.ref ee)) (VE0 : Arv Z Z.heap ee kee (.object cN1) (0 : Int32) [] .null) (U_ra0 : Unt h0 ra0) (A' : Exa Z h0 ra0 cN2) (B' : Fld Z h0 ra0 cN2 "elementData" "[Ljava/lang/Object;" (.ref ra1)) (C' : Exa Z h0 ra1 "[Ljava/lang/Object;") (D' : Exa Z h0 ra3 cN0) (E' : Fld Z h0 ra3 cN0 "steps" "Ljava/util/List;" (.ref el)) (F' : Arv Z h0 ra1 kc2 (.object cN1) (10 : Int32) (own_rn 10 ra3 0) .null) (O_ra1 : Ovr Z kc2 cN1) (G' : Fld Z h0 ra0 cN5 "modCount" "I" (.int 11)) (H' : Fld Z h0 ra0 cN2 "size" "I" (.int 10)) (Mmo : own_Mi Z "[Ljava/lang/Object;" mo) (I' : n0 ≤ ra0) :
  own_CN l Z y42 jdk_38_method_6_code 4 (some (.array (.object cN1))) [] R13_78 #[.ref ra0, .int 11] h0 (Q13_78 Z ra0 ra1 kc2 ra3 el ee kee mo h0 n0) := by
 refine own_entryN (plainFor_of_name pn_11) fun p e s m below meth c s₁ hx hby hml hown hnm hret hlk hZ hh X0 e0 => ?_
 have N0 := Fr.nil n0
 rw [ef_13_78 m ra0]
 refine og s₁ (mkF m 1 #[vR ra0, vI 11, vU, vU] [.ref ra0]) (fun _ k => qa X0 hx hby d13_0 rfl rfl rfl k) ?_
 obtain ⟨T1, X1, e1, st1⟩ := qf X0 hx hZ hown (ow hw 28) e0 B' (g := (mkF m 1 #[vR ra0, vI 11, vU, vU] [.ref ra0])) rfl rfl hby d13_1
 refine og T1 (mkF m 4 #[vR ra0, vI 11, vU, vU] [.ref ra1]) st1 ?_
 obtain ⟨cl2, Ar2, -, Sr2, Nr2, -, -⟩ := id F'
 refine og T1 (mkF m 5 #[vR ra0, vI 11, vU, vU] [.int 10]) (fun t k => X1.arraylength hx (by rw [e1]; exact Ar2.1) (State.isArrayOf_alike hZ.alike Ar2.2.1) (g := (mkF m 4 #[vR ra0, vI 11, vU, vU] [.ref ra1])) rfl rfl (hb hby d13_4) t (by rw [len_of Sr2 Nr2]; exact k)) ?_
 refine og T1 (mkF m 26 #[vR ra0, vI 11, vI 10, vU] [.int 1, .int 10, .int 1, .int 10]) (fun _ k => XS.istoreN X1.here hx rfl (hb hby d13_5) rfl (l' := #[vR ra0, vI 11, vI 10, vU]) rfl (qi X1 hx hby d13_6 rfl rfl (XS.ifYes X1.here hx rfl (pc0 := 7) (pc' := 20) rfl (hb hby d13_7) rfl ((if0 _ _).trans (tlt (by decide : (0 : Int32) < (10 : Int32))).2.2.1) (by decide) (by decide) (qi X1 hx hby d13_20 rfl rfl (qi X1 hx hby d13_21 rfl rfl (qi X1 hx hby d13_22 rfl rfl (XS.isub X1.here hx rfl (hb hby d13_23) rfl (qi X1 hx hby d13_24 rfl rfl (qc X1 hx hby d13_25 rfl k))))))))) ?_
 refine og T1 (mkF m 27 #[vR ra0, vI 11, vI 10, vU] [.int 5, .int 1, .int 10]) (fun _ k => XS.ishr X1.here hx rfl (hb hby d13_26) rfl (by rw [show ((10 : Int32) >>> ((1 : Int32) &&& 31)) = (5 : Int32) from by decide]; exact k)) ?_
 obtain ⟨_, T3, L3, X3, hQ3, st3⟩ := own_tc X1 hx hZ hown (ow hw 349) (ow hw 216) (rm33_79 l Z a0 hw  h0 n0 OLD ) (ow hw 218) (ow hw 217) e1 (g := (mkF m 27 #[vR ra0, vI 11, vI 10, vU] [.int 5, .int 1, .int 10])) rfl (zs hml) (argsL := [.int 10, .int 1, .int 5]) (rest := []) (lenOf pd_14 rfl) rfl (hb hby d13_27) (W := 0) rfl
 obtain ⟨rfl, Nq3, eq3⟩ := hQ3
 have N3 := Fr.app N0 Nq3
 refine og T3 (mkF m 33 #[vR ra0, vI 11, vI 10, vI 15] [.ref ra0, .ref ra0]) (fun _ k => st3.trans (XS.istoreN X3.here hx rfl (hb hby d13_30) rfl (l' := #[vR ra0, vI 11, vI 10, vI 15]) rfl (qa X3 hx hby d13_31 rfl rfl rfl (qa X3 hx hby d13_32 rfl rfl rfl k)))) ?_
 obtain ⟨T4, X4, e4, st4⟩ := qf X3 hx hZ hown (ow hw 28) eq3 B' (g := (mkF m 33 #[vR ra0, vI 11, vI 10, vI 15] [.ref ra0, .ref ra0])) rfl rfl hby d13_33
 refine og T4 (mkF m 37 #[vR ra0, vI 11, vI 10, vI 15] [.int 15, .ref ra1, .ref ra0]) (fun _ k => st4 _ (qi X4 hx hby d13_36 rfl rfl k)) ?_
 obtain ⟨_, T5, L5, X5, hQ5, st5⟩ := own_tc X4 hx hZ hown (ow hw 303) (ow hw 304) (rm53_81 l Z a0 hw ra1 kc2 ra3 el ee kee mo h0 n0 OLD EE0 FE0 VE0 C' D' E' F' O_ra1 Mmo) (ow hw 305) (ow hw 224) e4 (g := (mkF m 37 #[vR ra0, vI 11, vI 10, vI 15] [.int 15, .ref ra1, .ref ra0])) rfl (zs hml) (argsL := [.ref ra1, .int 15]) (rest := [.ref ra0]) (lenOf pd_32 rfl) rfl (hb hby d13_37) (W := 1) rfl
 obtain ⟨o6, kc7, rfl, Nq5, K5, f8, f9, f10, f11⟩ := hQ5
 have N5 := Fr.app N3 Nq5
 have g12 : n0 ≤ o6 := Nat.le_trans (own_osz OLD) f8
 have z13 : h0.size ≤ o6 := Nat.le_trans (Nat.le_refl _) f8
 refine og T5 (mkF m 41 #[vR ra0, vI 11, vI 10, vI 15] [.ref o6, .ref ra0, .ref o6]) (fun _ k => st5.trans (XS.dupX1 X5.here hx rfl (hb hby d13_40) rfl rfl rfl k)) ?_
 have F14 := (A'.keep K5)
 have F15 := (B'.keep K5 nin0)
 obtain ⟨T16, h16, X16, e16, W16, st16⟩ := putF X5 hx hZ hown (host := "") (Or.inl (ow hw 28)) Via.refl rfl F15 F14 (Or.inl (ow hw 29)) (ow hw 5) (ty := (.array (.object cN1))) (by decide) rfl rfl (g := (mkF m 41 #[vR ra0, vI 11, vI 10, vI 15] [.ref o6, .ref ra0, .ref o6])) rfl rfl (hb hby d13_41)
 have Fw16 := F15.same W16
 have N16 := Fr.snoc X16 N5 I'
 refine og T16 (mkF m 44 #[vR ra0, vI 11, vI 10, vI 15] [.ref o6]) st16 ?_
 have F17 := ((U_ra0.keep K5 nin0).wr W16)
 have F18 := ((G'.keep K5 nin0).other W16 (Or.inr (slot_ne (Or.inl (ow hw 26)) (Or.inl (ow hw 29)) (by decide) (t := .int) (t' := (.array (.object cN1))) (by decide) (by decide))))
 have F19 := ((H'.keep K5 nin0).other W16 (Or.inr (slot_ne (Or.inl (ow hw 58)) (Or.inl (ow hw 29)) (by decide) (t := .int) (t' := (.array (.object cN1))) (by decide) (by decide))))
 have F20 := (f9.wr W16)
 have F21 := (f10.other W16 (Ne.symm (own_ne_lo A'.lt f8)))
 have KEEP := (((Keep.refl h0 [ra0]).trans K5 all0).wr W16 (Or.inl (List.mem_of_getElem? (i := 0) rfl)))
 exact own_leaveN X16 hlk (v := some (.ref o6)) (own_nr hret) (lb rfl) (lb rfl) (by rw [e16]; exact ⟨o6, kc7, rfl, N16, KEEP, z13, F17, Fw16, F18, F19, F20, F21, f11⟩) (own_ra X16 hx hret rfl rfl rfl (hb hby d13_44))
abbrev R12_77 : Room := { frames := 4, cells := 1, slots := 15, locals := 62 }
def Q12_77 (Z : State) (ra0 ra1 : Addr) (kc2 : ClassId) (ra3 el ee : Addr) (kee : ClassId) (mo : Addr) (h0 : Heap) (n0 : Nat) (v : Option Value) (h : Heap) (L : List Loc) : Prop := (∃ (o3 : Addr) (kc4 : ClassId), v = some (.ref o3) ∧ Fr n0 L ∧ Keep h0 h [ra0] ∧ h0.size ≤ o3 ∧ Unt h ra0 ∧ Fld Z h ra0 cN2 "elementData" "[Ljava/lang/Object;" (.ref o3) ∧ Fld Z h ra0 cN5 "modCount" "I" (.int 11) ∧ Fld Z h ra0 cN2 "size" "I" (.int 10) ∧ Exa Z h o3 "[Ljava/lang/Object;" ∧ Arv Z h o3 kc4 (.object cN1) (15 : Int32) (own_rn 10 ra3 5) .null ∧ Ovr Z kc4 cN1)
theorem rm12_77 l Z a0 (hw : HW Z a0) ra0 ra1 kc2 ra3 el ee kee mo h0 n0 (OLD : Old Z n0 h0) (EE0 : Exa Z Z.heap el cN3) (FE0 : Fld Z Z.heap el cN3 "elements" "[Ljava/lang/Object;" (.ref ee)) (VE0 : Arv Z Z.heap ee kee (.object cN1) (0 : Int32) [] .null) (U_ra0 : Unt h0 ra0) (A' : Exa Z h0 ra0 cN2) (B' : Fld Z h0 ra0 cN2 "elementData" "[Ljava/lang/Object;" (.ref ra1)) (C' : Exa Z h0 ra1 "[Ljava/lang/Object;") (D' : Exa Z h0 ra3 cN0) (E' : Fld Z h0 ra3 cN0 "steps" "Ljava/util/List;" (.ref el)) (F' : Arv Z h0 ra1 kc2 (.object cN1) (10 : Int32) (own_rn 10 ra3 0) .null) (O_ra1 : Ovr Z kc2 cN1) (G' : Fld Z h0 ra0 cN5 "modCount" "I" (.int 11)) (H' : Fld Z h0 ra0 cN2 "size" "I" (.int 10)) (Mmo : own_Mi Z "[Ljava/lang/Object;" mo) (I' : n0 ≤ ra0) :
  own_CN l Z y43 jdk_38_method_7_code 1 (some (.array (.object cN1))) [] R12_77 #[.ref ra0] h0 (Q12_77 Z ra0 ra1 kc2 ra3 el ee kee mo h0 n0) := by
 refine own_entryN (plainFor_of_name pn_11) fun p e s m below meth c s₁ hx hby hml hown hnm hret hlk hZ hh X0 e0 => ?_
 have N0 := Fr.nil n0
 rw [ef_26_1 m ra0]
 refine og s₁ (mkF m 2 #[vR ra0] [.ref ra0, .ref ra0]) (fun _ k => qa X0 hx hby d12_0 rfl rfl rfl (qa X0 hx hby d12_1 rfl rfl rfl k)) ?_
 obtain ⟨T1, X1, e1, st1⟩ := qf X0 hx hZ hown (ow hw 57) e0 H' (g := (mkF m 2 #[vR ra0] [.ref ra0, .ref ra0])) rfl rfl hby d12_2
 refine og T1 (mkF m 7 #[vR ra0] [.int 11, .ref ra0]) (fun _ k => st1 _ (qc X1 hx hby d12_5 rfl (qp X1 hx hby d12_6 rfl rfl k))) ?_
 obtain ⟨_, T2, L2, X2, hQ2, st2⟩ := own_pc X1 hx hZ hown (ow hw 82) (ow hw 85) (ow hw 83) (ow hw 84) A' (rm13_78 l Z a0 hw ra0 ra1 kc2 ra3 el ee kee mo h0 n0 OLD EE0 FE0 VE0 U_ra0 A' B' C' D' E' F' O_ra1 G' H' Mmo I') (ow hw 86) (ow hw 6) e1 (g := (mkF m 7 #[vR ra0] [.int 11, .ref ra0])) rfl (zs hml) (argsL := [.int 11]) (rest := []) (lenOf pd_28 rfl) rfl (hb hby d12_7) (W := 0) rfl
 obtain ⟨o3, kc4, rfl, Nq2, K2, f5, f6, f7, f8, f9, f10, f11, f12⟩ := hQ2
 have N2 := Fr.app N0 Nq2
 have g13 : n0 ≤ o3 := Nat.le_trans (own_osz OLD) f5
 have z14 : h0.size ≤ o3 := Nat.le_trans (Nat.le_refl _) f5
 refine ot T2 (mkF m 10 #[vR ra0] [.ref o3]) st2 ?_
 have KEEP := ((Keep.refl h0 [ra0]).trans K2 (allS (Or.inl (List.mem_of_getElem? (i := 0) rfl)) all0))
 exact own_leaveN X2 hlk (v := some (.ref o3)) (own_nr hret) (lb rfl) (lb rfl) (by exact ⟨o3, kc4, rfl, N2, KEEP, z14, f6, f7, f8, f9, f10, f11, f12⟩) (own_ra X2 hx hret rfl rfl rfl (hb hby d12_10))
abbrev R11_76 : Room := { frames := 5, cells := 1, slots := 15, locals := 74 }
def Q11_76 (Z : State) (ra0 ra1 : Addr) (kc2 : ClassId) (ra3 el ee : Addr) (kee : ClassId) (mo : Addr) (h0 : Heap) (n0 : Nat) (v : Option Value) (h : Heap) (L : List Loc) : Prop := (∃ (o3 : Addr) (kc4 : ClassId), v = none ∧ Fr n0 L ∧ Keep h0 h [ra0] ∧ h0.size ≤ o3 ∧ Unt h ra0 ∧ Fld Z h ra0 cN2 "elementData" "[Ljava/lang/Object;" (.ref o3) ∧ Fld Z h ra0 cN5 "modCount" "I" (.int 11) ∧ Fld Z h ra0 cN2 "size" "I" (.int 11) ∧ Exa Z h o3 "[Ljava/lang/Object;" ∧ Arv Z h o3 kc4 (.object cN1) (15 : Int32) (own_rn 11 ra3 4) .null ∧ Ovr Z kc4 cN1)
theorem rm11_76 l Z a0 (hw : HW Z a0) ra0 ra1 kc2 ra3 el ee kee mo h0 n0 (OLD : Old Z n0 h0) (EE0 : Exa Z Z.heap el cN3) (FE0 : Fld Z Z.heap el cN3 "elements" "[Ljava/lang/Object;" (.ref ee)) (VE0 : Arv Z Z.heap ee kee (.object cN1) (0 : Int32) [] .null) (U_ra0 : Unt h0 ra0) (A' : Exa Z h0 ra0 cN2) (B' : Fld Z h0 ra0 cN2 "elementData" "[Ljava/lang/Object;" (.ref ra1)) (C' : Exa Z h0 ra1 "[Ljava/lang/Object;") (D' : Exa Z h0 ra3 cN0) (E' : Fld Z h0 ra3 cN0 "steps" "Ljava/util/List;" (.ref el)) (F' : Arv Z h0 ra1 kc2 (.object cN1) (10 : Int32) (own_rn 10 ra3 0) .null) (O_ra1 : Ovr Z kc2 cN1) (G' : Fld Z h0 ra0 cN5 "modCount" "I" (.int 11)) (H' : Fld Z h0 ra0 cN2 "size" "I" (.int 10)) (Mmo : own_Mi Z "[Ljava/lang/Object;" mo) (I' : n0 ≤ ra0) :
  own_CN l Z y44 jdk_38_method_24_code 4 none [] R11_76 #[.ref ra0, .ref ra3, .ref ra1, .int 10] h0 (Q11_76 Z ra0 ra1 kc2 ra3 el ee kee mo h0 n0) := by
 refine own_entryN (plainFor_of_name pn_11) fun p e s m below meth c s₁ hx hby hml hown hnm hret hlk hZ hh X0 e0 => ?_
 have N0 := Fr.nil n0
 rw [ef_11_76 m ra0 ra3 ra1]
 refine og s₁ (mkF m 2 #[vR ra0, vR ra3, vR ra1, vI 10] [.ref ra1, .int 10]) (fun _ k => qi X0 hx hby d11_0 rfl rfl (qa X0 hx hby d11_1 rfl rfl rfl k)) ?_
 obtain ⟨cl1, Ar1, -, Sr1, Nr1, -, -⟩ := id F'
 refine og s₁ (mkF m 3 #[vR ra0, vR ra3, vR ra1, vI 10] [.int 10, .int 10]) (fun t k => X0.arraylength hx (by rw [e0]; exact Ar1.1) (State.isArrayOf_alike hZ.alike Ar1.2.1) (g := (mkF m 2 #[vR ra0, vR ra3, vR ra1, vI 10] [.ref ra1, .int 10])) rfl rfl (hb hby d11_2) t (by rw [len_of Sr1 Nr1]; exact k)) ?_
 refine og s₁ (mkF m 7 #[vR ra0, vR ra3, vR ra1, vI 10] [.ref ra0]) (fun _ k => qn X0 hx hby d11_3 rfl rfl (tq 10) (qa X0 hx hby d11_6 rfl rfl rfl k)) ?_
 obtain ⟨_, T2, L2, X2, hQ2, st2⟩ := own_pc X0 hx hZ hown (ow hw 77) (ow hw 80) (ow hw 78) (ow hw 79) A' (rm12_77 l Z a0 hw ra0 ra1 kc2 ra3 el ee kee mo h0 n0 OLD EE0 FE0 VE0 U_ra0 A' B' C' D' E' F' O_ra1 G' H' Mmo I') (ow hw 81) (ow hw 6) e0 (g := (mkF m 7 #[vR ra0, vR ra3, vR ra1, vI 10] [.ref ra0])) rfl (zs hml) (argsL := []) (rest := []) (lenOf pd_29 rfl) rfl (hb hby d11_7) (W := 0) rfl
 obtain ⟨o3, kc4, rfl, Nq2, K2, f5, f6, f7, f8, f9, f10, f11, f12⟩ := hQ2
 have N2 := Fr.app N0 Nq2
 have g13 : n0 ≤ o3 := Nat.le_trans (own_osz OLD) f5
 have z14 : h0.size ≤ o3 := Nat.le_trans (Nat.le_refl _) f5
 refine og T2 (mkF m 14 #[vR ra0, vR ra3, vR o3, vI 10] [.ref ra3, .int 10, .ref o3]) (fun _ k => st2.trans (XS.astoreN X2.here hx rfl (hb hby d11_10) rfl rfl (l' := #[vR ra0, vR ra3, vR o3, vI 10]) rfl (qa X2 hx hby d11_11 rfl rfl rfl (qi X2 hx hby d11_12 rfl rfl (qa X2 hx hby d11_13 rfl rfl rfl k))))) ?_
 obtain ⟨cl15, Ar15, qr15, Sr15, Nr15, Hr15, Gr15⟩ := id f11
 have F16 := (D'.keep K2)
 obtain ⟨T15, h15, X15, e15, W15, st15⟩ := stR X2 hx hZ rfl Ar15 (j := (10 : Int32)) (inb_of Sr15 ⟨by decide, by decide⟩) rfl (Sto.ofV Ar15 qr15 f12 (Ins.of_exa F16 (ow hw 93))) (g := (mkF m 14 #[vR ra0, vR ra3, vR o3, vI 10] [.ref ra3, .int 10, .ref o3])) rfl rfl (hb hby d11_14)
 have V15 : Arv Z h15 o3 kc4 (.object cN1) (15 : Int32) (own_rn 11 ra3 4) .null := Arv.set Ar15 qr15 Sr15 Nr15 Hr15 Gr15 rfl W15 10 rfl (lb rfl)
 have N15 := Fr.snoc X15 N2 g13
 refine og T15 (mkF m 19 #[vR ra0, vR ra3, vR o3, vI 10] [.int 11, .ref ra0]) (fun _ k => st15 _ (qa X15 hx hby d11_15 rfl rfl rfl (qi X15 hx hby d11_16 rfl rfl (qc X15 hx hby d11_17 rfl (qp X15 hx hby d11_18 rfl rfl k))))) ?_
 have F17 := ((A'.keep K2).wr W15)
 have F18 := (f9.other W15 (Or.inl (own_ne_lo A'.lt f5)))
 obtain ⟨T19, h19, X19, e19, W19, st19⟩ := putF X15 hx hZ hown (host := "") (Or.inl (ow hw 57)) Via.refl e15 F18 F17 (Or.inl (ow hw 58)) (ow hw 5) (ty := .int) (by decide) rfl rfl (g := (mkF m 19 #[vR ra0, vR ra3, vR o3, vI 10] [.int 11, .ref ra0])) rfl rfl (hb hby d11_19)
 have Fw19 := F18.same W19
 have N19 := Fr.snoc X19 N15 I'
 refine og T19 (mkF m 22 #[vR ra0, vR ra3, vR o3, vI 10] []) st19 ?_
 have F20 := ((f6.wr W15).wr W19)
 have F21 := ((f7.other W15 (Or.inl (own_ne_lo A'.lt f5))).other W19 (Or.inr (slot_ne (Or.inl (ow hw 29)) (Or.inl (ow hw 58)) (by decide) (t := (.array (.object cN1))) (t' := .int) (by decide) (by decide))))
 have F22 := ((f8.other W15 (Or.inl (own_ne_lo A'.lt f5))).other W19 (Or.inr (slot_ne (Or.inl (ow hw 26)) (Or.inl (ow hw 58)) (by decide) (t := .int) (t' := .int) (by decide) (by decide))))
 have F23 := ((f10.wr W15).wr W19)
 have F24 := (V15.other W19 (Ne.symm (own_ne_lo A'.lt f5)))
 have KEEP := ((((Keep.refl h0 [ra0]).trans K2 (allS (Or.inl (List.mem_of_getElem? (i := 0) rfl)) all0)).wr W15 (Or.inr z14)).wr W19 (Or.inl (List.mem_of_getElem? (i := 0) rfl)))
 exact own_leaveN X19 hlk (v := none) (fun _ => rfl) (lb rfl) (lb rfl) (by rw [e19]; exact ⟨o3, kc4, rfl, N19, KEEP, z14, F20, F21, F22, Fw19, F23, F24, f12⟩) (fun fs hr => X19.returnOut hx hret (hb hby d11_22) hr)
abbrev R10_75 : Room := { frames := 6, cells := 1, slots := 15, locals := 89 }
def Q10_75 (Z : State) (ra0 ra1 : Addr) (kc2 : ClassId) (ra3 el ee : Addr) (kee : ClassId) (mo : Addr) (h0 : Heap) (n0 : Nat) (v : Option Value) (h : Heap) (L : List Loc) : Prop := (∃ (o15 : Addr) (kc16 : ClassId), v = some (.int 1) ∧ Fr n0 L ∧ Keep h0 h [ra0] ∧ h0.size ≤ o15 ∧ Unt h ra0 ∧ Fld Z h ra0 cN2 "elementData" "[Ljava/lang/Object;" (.ref o15) ∧ Fld Z h ra0 cN5 "modCount" "I" (.int 11) ∧ Fld Z h ra0 cN2 "size" "I" (.int 11) ∧ Exa Z h o15 "[Ljava/lang/Object;" ∧ Arv Z h o15 kc16 (.object cN1) (15 : Int32) (own_rn 11 ra3 4) .null ∧ Ovr Z kc16 cN1)
theorem rm10_75 l Z a0 (hw : HW Z a0) ra0 ra1 kc2 ra3 el ee kee mo h0 n0 (OLD : Old Z n0 h0) (EE0 : Exa Z Z.heap el cN3) (FE0 : Fld Z Z.heap el cN3 "elements" "[Ljava/lang/Object;" (.ref ee)) (VE0 : Arv Z Z.heap ee kee (.object cN1) (0 : Int32) [] .null) (U_ra0 : Unt h0 ra0) (A' : Exa Z h0 ra0 cN2) (B' : Fld Z h0 ra0 cN2 "elementData" "[Ljava/lang/Object;" (.ref ra1)) (C' : Exa Z h0 ra1 "[Ljava/lang/Object;") (D' : Exa Z h0 ra3 cN0) (E' : Fld Z h0 ra3 cN0 "steps" "Ljava/util/List;" (.ref el)) (F' : Arv Z h0 ra1 kc2 (.object cN1) (10 : Int32) (own_rn 10 ra3 0) .null) (O_ra1 : Ovr Z kc2 cN1) (G' : Fld Z h0 ra0 cN5 "modCount" "I" (.int 10)) (H' : Fld Z h0 ra0 cN2 "size" "I" (.int 10)) (I' : n0 ≤ ra0) (ne_ra3_ra0 : ra3 ≠ ra0) (ne_ra1_ra0 : ra1 ≠ ra0) (Mmo : own_Mi Z "[Ljava/lang/Object;" mo) :
  own_CN l Z y45 jdk_38_method_25_code 2 (some .boolean) [] R10_75 #[.ref ra0, .ref ra3] h0 (Q10_75 Z ra0 ra1 kc2 ra3 el ee kee mo h0 n0) := by
 refine own_entryN (plainFor_of_name pn_11) fun p e s m below meth c s₁ hx hby hml hown hnm hret hlk hZ hh X0 e0 => ?_
 have N0 := Fr.nil n0
 rw [ef_24_12 m ra0 ra3]
 refine og s₁ (mkF m 2 #[vR ra0, vR ra3] [.ref ra0, .ref ra0]) (fun _ k => qa X0 hx hby d10_0 rfl rfl rfl (XS.dup X0.here hx rfl (hb hby d10_1) rfl rfl k)) ?_
 obtain ⟨T1, X1, e1, st1⟩ := getF X0 hx hZ hown (host := "") (Or.inl (ow hw 70)) (Via.of (ow hw 71)) e0 G' (g := (mkF m 2 #[vR ra0, vR ra3] [.ref ra0, .ref ra0])) rfl rfl (hb hby d10_2)
 refine og T1 (mkF m 7 #[vR ra0, vR ra3] [.int 11, .ref ra0]) (fun _ k => st1 _ (qc X1 hx hby d10_5 rfl (qp X1 hx hby d10_6 rfl rfl k))) ?_
 obtain ⟨T2, h2, X2, e2, W2, st2⟩ := putF X1 hx hZ hown (host := "") (Or.inl (ow hw 70)) (Via.of (ow hw 71)) e1 G' A' (Or.inl (ow hw 26)) (ow hw 5) (ty := .int) (by decide) rfl rfl (g := (mkF m 7 #[vR ra0, vR ra3] [.int 11, .ref ra0])) rfl rfl (hb hby d10_7)
 have Fw2 := G'.same W2
 have N2 := Fr.snoc X2 N0 I'
 refine og T2 (mkF m 13 #[vR ra0, vR ra3] [.ref ra0, .ref ra3, .ref ra0]) (fun _ k => st2 _ (qa X2 hx hby d10_10 rfl rfl rfl (qa X2 hx hby d10_11 rfl rfl rfl (qa X2 hx hby d10_12 rfl rfl rfl k)))) ?_
 have F3 := (B'.other W2 (Or.inr (slot_ne (Or.inl (ow hw 29)) (Or.inl (ow hw 26)) (by decide) (t := (.array (.object cN1))) (t' := .int) (by decide) (by decide))))
 obtain ⟨T4, X4, e4, st4⟩ := qf X2 hx hZ hown (ow hw 28) e2 F3 (g := (mkF m 13 #[vR ra0, vR ra3] [.ref ra0, .ref ra3, .ref ra0])) rfl rfl hby d10_13
 refine og T4 (mkF m 17 #[vR ra0, vR ra3] [.ref ra0, .ref ra1, .ref ra3, .ref ra0]) (fun _ k => st4 _ (qa X4 hx hby d10_16 rfl rfl rfl k)) ?_
 have F5 := (H'.other W2 (Or.inr (slot_ne (Or.inl (ow hw 58)) (Or.inl (ow hw 26)) (by decide) (t := .int) (t' := .int) (by decide) (by decide))))
 obtain ⟨T6, X6, e6, st6⟩ := qf X4 hx hZ hown (ow hw 57) e4 F5 (g := (mkF m 17 #[vR ra0, vR ra3] [.ref ra0, .ref ra1, .ref ra3, .ref ra0])) rfl rfl hby d10_17
 refine og T6 (mkF m 20 #[vR ra0, vR ra3] [.int 10, .ref ra1, .ref ra3, .ref ra0]) st6 ?_
 have F7 := (U_ra0.wr W2)
 have F8 := (A'.wr W2)
 have F9 := (C'.wr W2)
 have F10 := (D'.wr W2)
 have F11 := (E'.other W2 (Or.inl ne_ra3_ra0))
 have F12 := (F'.other W2 ne_ra1_ra0)
 have F13 := (OLD.wr W2 I')
 obtain ⟨_, T14, L14, X14, hQ14, st14⟩ := own_pc X6 hx hZ hown (ow hw 72) (ow hw 75) (ow hw 73) (ow hw 74) F8 (rm11_76 l Z a0 hw ra0 ra1 kc2 ra3 el ee kee mo h2 n0 F13 EE0 FE0 VE0 F7 F8 F3 F9 F10 F11 F12 O_ra1 Fw2 F5 Mmo I') (ow hw 76) (ow hw 6) e6 (g := (mkF m 20 #[vR ra0, vR ra3] [.int 10, .ref ra1, .ref ra3, .ref ra0])) rfl (zs hml) (argsL := [.ref ra3, .ref ra1, .int 10]) (rest := []) (lenOf pd_30 rfl) rfl (hb hby d10_20) (W := 0) rfl
 obtain ⟨o15, kc16, rfl, Nq14, K14, f17, f18, f19, f20, f21, f22, f23, f24⟩ := hQ14
 have N14 := Fr.app N2 Nq14
 have g25 : n0 ≤ o15 := Nat.le_trans (own_osz F13) f17
 have F27 := (Nat.le_trans (Nat.le_refl _) (Nat.le_of_eq W2.size.symm))
 have z26 : h0.size ≤ o15 := Nat.le_trans F27 f17
 refine og T14 (mkF m 24 #[vR ra0, vR ra3] [.int 1]) (fun _ k => st14.trans (qc X14 hx hby d10_23 rfl k)) ?_
 have KEEP := (((Keep.refl h0 [ra0]).wr W2 (Or.inl (List.mem_of_getElem? (i := 0) rfl))).trans K14 (allS (Or.inl (List.mem_of_getElem? (i := 0) rfl)) all0))
 exact own_leaveN X14 hlk (v := some (.int (nar .boolean (1 : Int32)))) (own_nr hret) (lb rfl) (lb rfl) (by exact ⟨o15, kc16, rfl, N14, KEEP, z26, f18, f19, f20, f21, f22, f23, f24⟩) (fun fs hr => retN X14 hx (t := .boolean) hret (by simp) (hb hby d10_24) hr)
abbrev R11_85 : Room := { frames := 0, cells := 0, slots := 0, locals := 0 }
def Q11_85 (Z : State) (ra0 ra1 : Addr) (kc2 : ClassId) (ra3 el ee : Addr) (kee : ClassId) (h0 : Heap) (n0 : Nat) (v : Option Value) (h : Heap) (L : List Loc) : Prop := (v = none ∧ Fr n0 L ∧ Keep h0 h [ra1, ra0] ∧ Arv Z h ra1 kc2 (.object cN1) (15 : Int32) (own_rn 12 ra3 3) .null ∧ Unt h ra0 ∧ Fld Z h ra0 cN2 "elementData" "[Ljava/lang/Object;" (.ref ra1) ∧ Fld Z h ra0 cN5 "modCount" "I" (.int 12) ∧ Fld Z h ra0 cN2 "size" "I" (.int 12))
theorem rm11_85 l Z a0 (hw : HW Z a0) ra0 ra1 kc2 ra3 el ee kee h0 n0 (OLD : Old Z n0 h0) (EE0 : Exa Z Z.heap el cN3) (FE0 : Fld Z Z.heap el cN3 "elements" "[Ljava/lang/Object;" (.ref ee)) (VE0 : Arv Z Z.heap ee kee (.object cN1) (0 : Int32) [] .null) (U_ra0 : Unt h0 ra0) (A' : Exa Z h0 ra0 cN2) (B' : Fld Z h0 ra0 cN2 "elementData" "[Ljava/lang/Object;" (.ref ra1)) (C' : Exa Z h0 ra1 "[Ljava/lang/Object;") (D' : Exa Z h0 ra3 cN0) (E' : Fld Z h0 ra3 cN0 "steps" "Ljava/util/List;" (.ref el)) (F' : Arv Z h0 ra1 kc2 (.object cN1) (15 : Int32) (own_rn 11 ra3 4) .null) (O_ra1 : Ovr Z kc2 cN1) (G' : Fld Z h0 ra0 cN5 "modCount" "I" (.int 12)) (H' : Fld Z h0 ra0 cN2 "size" "I" (.int 11)) (I' : n0 ≤ ra1) (ne_ra0_ra1 : ra0 ≠ ra1) (J' : n0 ≤ ra0) :
  own_CN l Z y44 jdk_38_method_24_code 4 none [] R11_85 #[.ref ra0, .ref ra3, .ref ra1, .int 11] h0 (Q11_85 Z ra0 ra1 kc2 ra3 el ee kee h0 n0) := by
 refine own_entryN (plainFor_of_name pn_11) fun p e s m below meth c s₁ hx hby hml hown hnm hret hlk hZ hh X0 e0 => ?_
 have N0 := Fr.nil n0
 rw [ef_11_85 m ra0 ra3 ra1]
 refine og s₁ (mkF m 2 #[vR ra0, vR ra3, vR ra1, vI 11] [.ref ra1, .int 11]) (fun _ k => qi X0 hx hby d11_0 rfl rfl (qa X0 hx hby d11_1 rfl rfl rfl k)) ?_
 obtain ⟨cl1, Ar1, -, Sr1, Nr1, -, -⟩ := id F'
 refine og s₁ (mkF m 3 #[vR ra0, vR ra3, vR ra1, vI 11] [.int 15, .int 11]) (fun t k => X0.arraylength hx (by rw [e0]; exact Ar1.1) (State.isArrayOf_alike hZ.alike Ar1.2.1) (g := (mkF m 2 #[vR ra0, vR ra3, vR ra1, vI 11] [.ref ra1, .int 11])) rfl rfl (hb hby d11_2) t (by rw [len_of Sr1 Nr1]; exact k)) ?_
 refine og s₁ (mkF m 14 #[vR ra0, vR ra3, vR ra1, vI 11] [.ref ra3, .int 11, .ref ra1]) (fun _ k => XS.icmpYes X0.here hx rfl (pc0 := 3) (pc' := 11) rfl (hb hby d11_3) rfl (feq (by decide : ¬ ((11 : Int32) = (15 : Int32)))).2 (by decide) (by decide) (qa X0 hx hby d11_11 rfl rfl rfl (qi X0 hx hby d11_12 rfl rfl (qa X0 hx hby d11_13 rfl rfl rfl k)))) ?_
 obtain ⟨cl2, Ar2, qr2, Sr2, Nr2, Hr2, Gr2⟩ := id F'
 obtain ⟨T2, h2, X2, e2, W2, st2⟩ := stR X0 hx hZ e0 Ar2 (j := (11 : Int32)) (inb_of Sr2 ⟨by decide, by decide⟩) rfl (Sto.ofV Ar2 qr2 O_ra1 (Ins.of_exa D' (ow hw 93))) (g := (mkF m 14 #[vR ra0, vR ra3, vR ra1, vI 11] [.ref ra3, .int 11, .ref ra1])) rfl rfl (hb hby d11_14)
 have V2 : Arv Z h2 ra1 kc2 (.object cN1) (15 : Int32) (own_rn 12 ra3 3) .null := Arv.set Ar2 qr2 Sr2 Nr2 Hr2 Gr2 rfl W2 11 rfl (lb rfl)
 have N2 := Fr.snoc X2 N0 I'
 refine og T2 (mkF m 19 #[vR ra0, vR ra3, vR ra1, vI 11] [.int 12, .ref ra0]) (fun _ k => st2 _ (qa X2 hx hby d11_15 rfl rfl rfl (qi X2 hx hby d11_16 rfl rfl (qc X2 hx hby d11_17 rfl (qp X2 hx hby d11_18 rfl rfl k))))) ?_
 have F3 := (A'.wr W2)
 have F4 := (H'.other W2 (Or.inl ne_ra0_ra1))
 obtain ⟨T5, h5, X5, e5, W5, st5⟩ := putF X2 hx hZ hown (host := "") (Or.inl (ow hw 57)) Via.refl e2 F4 F3 (Or.inl (ow hw 58)) (ow hw 5) (ty := .int) (by decide) rfl rfl (g := (mkF m 19 #[vR ra0, vR ra3, vR ra1, vI 11] [.int 12, .ref ra0])) rfl rfl (hb hby d11_19)
 have Fw5 := F4.same W5
 have N5 := Fr.snoc X5 N2 J'
 refine og T5 (mkF m 22 #[vR ra0, vR ra3, vR ra1, vI 11] []) st5 ?_
 have F6 := (V2.other W5 (Ne.symm ne_ra0_ra1))
 have F7 := ((U_ra0.wr W2).wr W5)
 have F8 := ((B'.other W2 (Or.inl ne_ra0_ra1)).other W5 (Or.inr (slot_ne (Or.inl (ow hw 29)) (Or.inl (ow hw 58)) (by decide) (t := (.array (.object cN1))) (t' := .int) (by decide) (by decide))))
 have F9 := ((G'.other W2 (Or.inl ne_ra0_ra1)).other W5 (Or.inr (slot_ne (Or.inl (ow hw 26)) (Or.inl (ow hw 58)) (by decide) (t := .int) (t' := .int) (by decide) (by decide))))
 have KEEP := (((Keep.refl h0 [ra1, ra0]).wr W2 (Or.inl (List.mem_of_getElem? (i := 0) rfl))).wr W5 (Or.inl (List.mem_of_getElem? (i := 1) rfl)))
 exact own_leaveN X5 hlk (v := none) (fun _ => rfl) (lb rfl) (lb rfl) (by rw [e5]; exact ⟨rfl, N5, KEEP, F6, F7, F8, F9, Fw5⟩) (fun fs hr => X5.returnOut hx hret (hb hby d11_22) hr)
abbrev R10_84 : Room := { frames := 1, cells := 0, slots := 0, locals := 15 }
def Q10_84 (Z : State) (ra0 ra1 : Addr) (kc2 : ClassId) (ra3 el ee : Addr) (kee : ClassId) (h0 : Heap) (n0 : Nat) (v : Option Value) (h : Heap) (L : List Loc) : Prop := (v = some (.int 1) ∧ Fr n0 L ∧ Keep h0 h [ra0, ra1] ∧ Unt h ra0 ∧ Fld Z h ra0 cN2 "elementData" "[Ljava/lang/Object;" (.ref ra1) ∧ Fld Z h ra0 cN5 "modCount" "I" (.int 12) ∧ Fld Z h ra0 cN2 "size" "I" (.int 12) ∧ Arv Z h ra1 kc2 (.object cN1) (15 : Int32) (own_rn 12 ra3 3) .null)
theorem rm10_84 l Z a0 (hw : HW Z a0) ra0 ra1 kc2 ra3 el ee kee h0 n0 (OLD : Old Z n0 h0) (EE0 : Exa Z Z.heap el cN3) (FE0 : Fld Z Z.heap el cN3 "elements" "[Ljava/lang/Object;" (.ref ee)) (VE0 : Arv Z Z.heap ee kee (.object cN1) (0 : Int32) [] .null) (U_ra0 : Unt h0 ra0) (A' : Exa Z h0 ra0 cN2) (B' : Fld Z h0 ra0 cN2 "elementData" "[Ljava/lang/Object;" (.ref ra1)) (C' : Exa Z h0 ra1 "[Ljava/lang/Object;") (D' : Exa Z h0 ra3 cN0) (E' : Fld Z h0 ra3 cN0 "steps" "Ljava/util/List;" (.ref el)) (F' : Arv Z h0 ra1 kc2 (.object cN1) (15 : Int32) (own_rn 11 ra3 4) .null) (O_ra1 : Ovr Z kc2 cN1) (G' : Fld Z h0 ra0 cN5 "modCount" "I" (.int 11)) (H' : Fld Z h0 ra0 cN2 "size" "I" (.int 11)) (I' : n0 ≤ ra0) (ne_ra3_ra0 : ra3 ≠ ra0) (ne_ra1_ra0 : ra1 ≠ ra0) (J' : n0 ≤ ra1) :
  own_CN l Z y45 jdk_38_method_25_code 2 (some .boolean) [] R10_84 #[.ref ra0, .ref ra3] h0 (Q10_84 Z ra0 ra1 kc2 ra3 el ee kee h0 n0) := by
 refine own_entryN (plainFor_of_name pn_11) fun p e s m below meth c s₁ hx hby hml hown hnm hret hlk hZ hh X0 e0 => ?_
 have N0 := Fr.nil n0
 rw [ef_24_12 m ra0 ra3]
 refine og s₁ (mkF m 2 #[vR ra0, vR ra3] [.ref ra0, .ref ra0]) (fun _ k => qa X0 hx hby d10_0 rfl rfl rfl (XS.dup X0.here hx rfl (hb hby d10_1) rfl rfl k)) ?_
 obtain ⟨T1, X1, e1, st1⟩ := getF X0 hx hZ hown (host := "") (Or.inl (ow hw 70)) (Via.of (ow hw 71)) e0 G' (g := (mkF m 2 #[vR ra0, vR ra3] [.ref ra0, .ref ra0])) rfl rfl (hb hby d10_2)
 refine og T1 (mkF m 7 #[vR ra0, vR ra3] [.int 12, .ref ra0]) (fun _ k => st1 _ (qc X1 hx hby d10_5 rfl (qp X1 hx hby d10_6 rfl rfl k))) ?_
 obtain ⟨T2, h2, X2, e2, W2, st2⟩ := putF X1 hx hZ hown (host := "") (Or.inl (ow hw 70)) (Via.of (ow hw 71)) e1 G' A' (Or.inl (ow hw 26)) (ow hw 5) (ty := .int) (by decide) rfl rfl (g := (mkF m 7 #[vR ra0, vR ra3] [.int 12, .ref ra0])) rfl rfl (hb hby d10_7)
 have Fw2 := G'.same W2
 have N2 := Fr.snoc X2 N0 I'
 refine og T2 (mkF m 13 #[vR ra0, vR ra3] [.ref ra0, .ref ra3, .ref ra0]) (fun _ k => st2 _ (qa X2 hx hby d10_10 rfl rfl rfl (qa X2 hx hby d10_11 rfl rfl rfl (qa X2 hx hby d10_12 rfl rfl rfl k)))) ?_
 have F3 := (B'.other W2 (Or.inr (slot_ne (Or.inl (ow hw 29)) (Or.inl (ow hw 26)) (by decide) (t := (.array (.object cN1))) (t' := .int) (by decide) (by decide))))
 obtain ⟨T4, X4, e4, st4⟩ := qf X2 hx hZ hown (ow hw 28) e2 F3 (g := (mkF m 13 #[vR ra0, vR ra3] [.ref ra0, .ref ra3, .ref ra0])) rfl rfl hby d10_13
 refine og T4 (mkF m 17 #[vR ra0, vR ra3] [.ref ra0, .ref ra1, .ref ra3, .ref ra0]) (fun _ k => st4 _ (qa X4 hx hby d10_16 rfl rfl rfl k)) ?_
 have F5 := (H'.other W2 (Or.inr (slot_ne (Or.inl (ow hw 58)) (Or.inl (ow hw 26)) (by decide) (t := .int) (t' := .int) (by decide) (by decide))))
 obtain ⟨T6, X6, e6, st6⟩ := qf X4 hx hZ hown (ow hw 57) e4 F5 (g := (mkF m 17 #[vR ra0, vR ra3] [.ref ra0, .ref ra1, .ref ra3, .ref ra0])) rfl rfl hby d10_17
 refine og T6 (mkF m 20 #[vR ra0, vR ra3] [.int 11, .ref ra1, .ref ra3, .ref ra0]) st6 ?_
 have F7 := (U_ra0.wr W2)
 have F8 := (A'.wr W2)
 have F9 := (C'.wr W2)
 have F10 := (D'.wr W2)
 have F11 := (E'.other W2 (Or.inl ne_ra3_ra0))
 have F12 := (F'.other W2 ne_ra1_ra0)
 have F13 := (OLD.wr W2 I')
 obtain ⟨_, T14, L14, X14, hQ14, st14⟩ := own_pc X6 hx hZ hown (ow hw 72) (ow hw 75) (ow hw 73) (ow hw 74) F8 (rm11_85 l Z a0 hw ra0 ra1 kc2 ra3 el ee kee h2 n0 F13 EE0 FE0 VE0 F7 F8 F3 F9 F10 F11 F12 O_ra1 Fw2 F5 J' (Ne.symm ne_ra1_ra0) I') (ow hw 76) (ow hw 6) e6 (g := (mkF m 20 #[vR ra0, vR ra3] [.int 11, .ref ra1, .ref ra3, .ref ra0])) rfl (zs hml) (argsL := [.ref ra3, .ref ra1, .int 11]) (rest := []) (lenOf pd_30 rfl) rfl (hb hby d10_20) (W := 0) rfl
 obtain ⟨rfl, Nq14, K14, f15, f16, f17, f18, f19⟩ := hQ14
 have N14 := Fr.app N2 Nq14
 refine og T14 (mkF m 24 #[vR ra0, vR ra3] [.int 1]) (fun _ k => st14.trans (qc X14 hx hby d10_23 rfl k)) ?_
 have KEEP := (((Keep.refl h0 [ra0, ra1]).wr W2 (Or.inl (List.mem_of_getElem? (i := 0) rfl))).trans K14 (allS (Or.inl (List.mem_of_getElem? (i := 1) rfl)) (allS (Or.inl (List.mem_of_getElem? (i := 0) rfl)) all0)))
 exact own_leaveN X14 hlk (v := some (.int (nar .boolean (1 : Int32)))) (own_nr hret) (lb rfl) (lb rfl) (by exact ⟨rfl, N14, KEEP, f16, f17, f18, f19, f15⟩) (fun fs hr => retN X14 hx (t := .boolean) hret (by simp) (hb hby d10_24) hr)
abbrev R5_86 : Room := { frames := 9, cells := 3, slots := 20, locals := 143 }
def Q5_86 (Z : State) (ra0 ra1 ra2 : Addr) (kc3 : ClassId) (ra4 el ee : Addr) (kee : ClassId) (em mo : Addr) (h0 : Heap) (n0 : Nat) (v : Option Value) (h : Heap) (L : List Loc) : Prop := (∃ (o2 p2 : Addr) (kc2 : ClassId) (vq2 : List Value), v = none ∧ Fr n0 L ∧ Keep h0 h [ra0] ∧ h0.size ≤ o2 ∧ h0.size ≤ p2 ∧ Fld Z h ra0 cN0 "steps" "Ljava/util/List;" (.ref o2) ∧ own_Is Z h o2 cN3 ∧ Fld Z h o2 cN3 "elements" "[Ljava/lang/Object;" (.ref p2) ∧ Arv Z h p2 kc2 (.object cN1) (8 : Int32) vq2 .null)
theorem rm5_86 l Z a0 (hw : HW Z a0) ra0 ra1 ra2 kc3 ra4 el ee kee em mo h0 n0 (OLD : Old Z n0 h0) (EE0 : Exa Z Z.heap el cN3) (FE0 : Fld Z Z.heap el cN3 "elements" "[Ljava/lang/Object;" (.ref ee)) (VE0 : Arv Z Z.heap ee kee (.object cN1) (0 : Int32) [] .null) (A' : Exa Z h0 ra0 cN0) (B' : Fld Z h0 ra0 cN0 "steps" "Ljava/util/List;" .null) (U_ra1 : Unt h0 ra1) (C' : Exa Z h0 ra1 cN2) (D' : Fld Z h0 ra1 cN2 "elementData" "[Ljava/lang/Object;" (.ref ra2)) (E' : Exa Z h0 ra2 "[Ljava/lang/Object;") (F' : Exa Z h0 ra4 cN0) (G' : Fld Z h0 ra4 cN0 "steps" "Ljava/util/List;" (.ref el)) (H' : Arv Z h0 ra2 kc3 (.object cN1) (10 : Int32) (own_rn 8 ra4 2) .null) (O_ra2 : Ovr Z kc3 cN1) (I' : Fld Z h0 ra1 cN5 "modCount" "I" (.int 8)) (J' : Fld Z h0 ra1 cN2 "size" "I" (.int 8)) (EM0 : Exa Z Z.heap em cN1) (Mmo : own_Mi Z "[Ljava/lang/Object;" mo) (SM0 : Sta Z Z.heap cN7 "EMPTY" "Ljava/lang/Object;" (.ref em)) (SE0 : Sta Z Z.heap cN7 "EMPTY_LIST" "Ljava/util/ImmutableCollections$ListN;" (.ref el)) (ne_ra1_ra2 : ra1 ≠ ra2) (K' : n0 ≤ ra0) :
  own_CN l Z y41 prog_29_method_1_code 2 none [] R5_86 #[.ref ra0, .ref ra1] h0 (Q5_86 Z ra0 ra1 ra2 kc3 ra4 el ee kee em mo h0 n0) := by
 refine own_entryN (plainFor_of_name pn_8) fun p e s m below meth c s₁ hx hby hml hown hnm hret hlk hZ hh X0 e0 => ?_
 have N0 := Fr.nil n0
 rw [ef_24_12 m ra0 ra1]
 refine og s₁ (mkF m 1 #[vR ra0, vR ra1] [.ref ra0]) (fun _ k => qa X0 hx hby d5_0 rfl rfl rfl k) ?_
 obtain ⟨T1, X1, e1, st1⟩ := initO X0 hx hZ hown (ow hw 33) (ow hw 23) (ow hw 24) e0 (g := (mkF m 1 #[vR ra0, vR ra1] [.ref ra0])) rfl (zs hml) rfl (hb hby d5_1) (by decide) (W := 0) (lb rfl) (by decide)
 refine og T1 (mkF m 6 #[vR ra0, vR ra1] [.ref ra1, .ref ra0]) (fun _ k => st1 _ (qa X1 hx hby d5_4 rfl rfl rfl (qa X1 hx hby d5_5 rfl rfl rfl k))) ?_
 obtain ⟨_, T2, L2, X2, hQ2, st2⟩ := own_tc X1 hx hZ hown (ow hw 34) (ow hw 35) (own_cpl (n := 8) (m := 2) hw C' U_ra1 D' J' I' H' E' O_ra2 F' ne_ra1_ra2 (by decide) (by decide) (by decide) (SM0.ext OLD.2) (SE0.ext OLD.2) Mmo) (ow hw 37) (ow hw 36) e1 (g := (mkF m 6 #[vR ra0, vR ra1] [.ref ra1, .ref ra0])) rfl (zs hml) (argsL := [.ref ra1]) (rest := [.ref ra0]) (lenOf pd_26 rfl) rfl (hb hby d5_6) (W := 1) rfl
 obtain ⟨o2, p2, kc2, vq2, rfl, rfl, lo2, lp2, K2, I2, F2, V2⟩ := own_q3 hQ2 (by decide)
 replace V2 : Arv Z T2.heap p2 kc2 (.object cN1) (8 : Int32) vq2 .null := V2
 have N2 := Fr.app N0 (Fr.nil n0)
 have g3 : n0 ≤ o2 := Nat.le_trans (own_osz OLD) lo2
 have z4 : h0.size ≤ o2 := Nat.le_trans (Nat.le_refl _) lo2
 have g5 : n0 ≤ p2 := Nat.le_trans (own_osz OLD) lp2
 have z6 : h0.size ≤ p2 := Nat.le_trans (Nat.le_refl _) lp2
 refine ot T2 (mkF m 9 #[vR ra0, vR ra1] [.ref o2, .ref ra0]) st2 ?_
 have F7 := (A'.keep K2)
 have F8 := (B'.keep K2 nin0)
 obtain ⟨T9, h9, X9, e9, W9, st9⟩ := putF X2 hx hZ hown (host := "") (Or.inl (ow hw 63)) Via.refl rfl F8 F7 (Or.inr ⟨(ow hw 64), rfl, hnm⟩) (ow hw 2) (ty := (.object "java/util/List")) (by decide) rfl rfl (g := (mkF m 9 #[vR ra0, vR ra1] [.ref o2, .ref ra0])) rfl rfl (hb hby d5_9)
 have Fw9 := F8.same W9
 have N9 := Fr.snoc X9 N2 K'
 refine og T9 (mkF m 12 #[vR ra0, vR ra1] []) st9 ?_
 have F10 := (I2.wr W9)
 have F11 := (F2.other W9 (Or.inl (Ne.symm (own_ne_lo A'.lt lo2))))
 have F12 := (V2.other W9 (Ne.symm (own_ne_lo A'.lt lp2)))
 have KEEP := (((Keep.refl h0 [ra0]).trans K2 all0).wr W9 (Or.inl (List.mem_of_getElem? (i := 0) rfl)))
 exact own_leaveN X9 hlk (v := none) (fun _ => rfl) (lb rfl) (lb rfl) (by rw [e9]; exact ⟨o2, p2, kc2, vq2, rfl, N9, KEEP, z4, z6, Fw9, F10, F11, F12⟩) (fun fs hr => X9.returnOut hx hret (hb hby d5_12) hr)
abbrev R5_87 : Room := { frames := 9, cells := 3, slots := 20, locals := 143 }
def Q5_87 (Z : State) (ra0 ra1 ra2 : Addr) (kc3 : ClassId) (ra4 el ee : Addr) (kee : ClassId) (em mo : Addr) (h0 : Heap) (n0 : Nat) (v : Option Value) (h : Heap) (L : List Loc) : Prop := (∃ (o2 p2 : Addr) (kc2 : ClassId) (vq2 : List Value), v = none ∧ Fr n0 L ∧ Keep h0 h [ra0] ∧ h0.size ≤ o2 ∧ h0.size ≤ p2 ∧ Fld Z h ra0 cN0 "steps" "Ljava/util/List;" (.ref o2) ∧ own_Is Z h o2 cN3 ∧ Fld Z h o2 cN3 "elements" "[Ljava/lang/Object;" (.ref p2) ∧ Arv Z h p2 kc2 (.object cN1) (7 : Int32) vq2 .null)
theorem rm5_87 l Z a0 (hw : HW Z a0) ra0 ra1 ra2 kc3 ra4 el ee kee em mo h0 n0 (OLD : Old Z n0 h0) (EE0 : Exa Z Z.heap el cN3) (FE0 : Fld Z Z.heap el cN3 "elements" "[Ljava/lang/Object;" (.ref ee)) (VE0 : Arv Z Z.heap ee kee (.object cN1) (0 : Int32) [] .null) (A' : Exa Z h0 ra0 cN0) (B' : Fld Z h0 ra0 cN0 "steps" "Ljava/util/List;" .null) (U_ra1 : Unt h0 ra1) (C' : Exa Z h0 ra1 cN2) (D' : Fld Z h0 ra1 cN2 "elementData" "[Ljava/lang/Object;" (.ref ra2)) (E' : Exa Z h0 ra2 "[Ljava/lang/Object;") (F' : Exa Z h0 ra4 cN0) (G' : Fld Z h0 ra4 cN0 "steps" "Ljava/util/List;" (.ref el)) (H' : Arv Z h0 ra2 kc3 (.object cN1) (10 : Int32) (own_rn 7 ra4 3) .null) (O_ra2 : Ovr Z kc3 cN1) (I' : Fld Z h0 ra1 cN5 "modCount" "I" (.int 7)) (J' : Fld Z h0 ra1 cN2 "size" "I" (.int 7)) (EM0 : Exa Z Z.heap em cN1) (Mmo : own_Mi Z "[Ljava/lang/Object;" mo) (SM0 : Sta Z Z.heap cN7 "EMPTY" "Ljava/lang/Object;" (.ref em)) (SE0 : Sta Z Z.heap cN7 "EMPTY_LIST" "Ljava/util/ImmutableCollections$ListN;" (.ref el)) (ne_ra1_ra2 : ra1 ≠ ra2) (K' : n0 ≤ ra0) :
  own_CN l Z y41 prog_29_method_1_code 2 none [] R5_87 #[.ref ra0, .ref ra1] h0 (Q5_87 Z ra0 ra1 ra2 kc3 ra4 el ee kee em mo h0 n0) := by
 refine own_entryN (plainFor_of_name pn_8) fun p e s m below meth c s₁ hx hby hml hown hnm hret hlk hZ hh X0 e0 => ?_
 have N0 := Fr.nil n0
 rw [ef_24_12 m ra0 ra1]
 refine og s₁ (mkF m 1 #[vR ra0, vR ra1] [.ref ra0]) (fun _ k => qa X0 hx hby d5_0 rfl rfl rfl k) ?_
 obtain ⟨T1, X1, e1, st1⟩ := initO X0 hx hZ hown (ow hw 33) (ow hw 23) (ow hw 24) e0 (g := (mkF m 1 #[vR ra0, vR ra1] [.ref ra0])) rfl (zs hml) rfl (hb hby d5_1) (by decide) (W := 0) (lb rfl) (by decide)
 refine og T1 (mkF m 6 #[vR ra0, vR ra1] [.ref ra1, .ref ra0]) (fun _ k => st1 _ (qa X1 hx hby d5_4 rfl rfl rfl (qa X1 hx hby d5_5 rfl rfl rfl k))) ?_
 obtain ⟨_, T2, L2, X2, hQ2, st2⟩ := own_tc X1 hx hZ hown (ow hw 34) (ow hw 35) (own_cpl (n := 7) (m := 3) hw C' U_ra1 D' J' I' H' E' O_ra2 F' ne_ra1_ra2 (by decide) (by decide) (by decide) (SM0.ext OLD.2) (SE0.ext OLD.2) Mmo) (ow hw 37) (ow hw 36) e1 (g := (mkF m 6 #[vR ra0, vR ra1] [.ref ra1, .ref ra0])) rfl (zs hml) (argsL := [.ref ra1]) (rest := [.ref ra0]) (lenOf pd_26 rfl) rfl (hb hby d5_6) (W := 1) rfl
 obtain ⟨o2, p2, kc2, vq2, rfl, rfl, lo2, lp2, K2, I2, F2, V2⟩ := own_q3 hQ2 (by decide)
 replace V2 : Arv Z T2.heap p2 kc2 (.object cN1) (7 : Int32) vq2 .null := V2
 have N2 := Fr.app N0 (Fr.nil n0)
 have g3 : n0 ≤ o2 := Nat.le_trans (own_osz OLD) lo2
 have z4 : h0.size ≤ o2 := Nat.le_trans (Nat.le_refl _) lo2
 have g5 : n0 ≤ p2 := Nat.le_trans (own_osz OLD) lp2
 have z6 : h0.size ≤ p2 := Nat.le_trans (Nat.le_refl _) lp2
 refine ot T2 (mkF m 9 #[vR ra0, vR ra1] [.ref o2, .ref ra0]) st2 ?_
 have F7 := (A'.keep K2)
 have F8 := (B'.keep K2 nin0)
 obtain ⟨T9, h9, X9, e9, W9, st9⟩ := putF X2 hx hZ hown (host := "") (Or.inl (ow hw 63)) Via.refl rfl F8 F7 (Or.inr ⟨(ow hw 64), rfl, hnm⟩) (ow hw 2) (ty := (.object "java/util/List")) (by decide) rfl rfl (g := (mkF m 9 #[vR ra0, vR ra1] [.ref o2, .ref ra0])) rfl rfl (hb hby d5_9)
 have Fw9 := F8.same W9
 have N9 := Fr.snoc X9 N2 K'
 refine og T9 (mkF m 12 #[vR ra0, vR ra1] []) st9 ?_
 have F10 := (I2.wr W9)
 have F11 := (F2.other W9 (Or.inl (Ne.symm (own_ne_lo A'.lt lo2))))
 have F12 := (V2.other W9 (Ne.symm (own_ne_lo A'.lt lp2)))
 have KEEP := (((Keep.refl h0 [ra0]).trans K2 all0).wr W9 (Or.inl (List.mem_of_getElem? (i := 0) rfl)))
 exact own_leaveN X9 hlk (v := none) (fun _ => rfl) (lb rfl) (lb rfl) (by rw [e9]; exact ⟨o2, p2, kc2, vq2, rfl, N9, KEEP, z4, z6, Fw9, F10, F11, F12⟩) (fun fs hr => X9.returnOut hx hret (hb hby d5_12) hr)
abbrev R5_88 : Room := { frames := 9, cells := 3, slots := 20, locals := 143 }
def Q5_88 (Z : State) (ra0 ra1 ra2 : Addr) (kc3 : ClassId) (ra4 el ee : Addr) (kee : ClassId) (em mo : Addr) (h0 : Heap) (n0 : Nat) (v : Option Value) (h : Heap) (L : List Loc) : Prop := (∃ (o2 p2 : Addr) (kc2 : ClassId) (vq2 : List Value), v = none ∧ Fr n0 L ∧ Keep h0 h [ra0] ∧ h0.size ≤ o2 ∧ h0.size ≤ p2 ∧ Fld Z h ra0 cN0 "steps" "Ljava/util/List;" (.ref o2) ∧ own_Is Z h o2 cN3 ∧ Fld Z h o2 cN3 "elements" "[Ljava/lang/Object;" (.ref p2) ∧ Arv Z h p2 kc2 (.object cN1) (6 : Int32) vq2 .null)
theorem rm5_88 l Z a0 (hw : HW Z a0) ra0 ra1 ra2 kc3 ra4 el ee kee em mo h0 n0 (OLD : Old Z n0 h0) (EE0 : Exa Z Z.heap el cN3) (FE0 : Fld Z Z.heap el cN3 "elements" "[Ljava/lang/Object;" (.ref ee)) (VE0 : Arv Z Z.heap ee kee (.object cN1) (0 : Int32) [] .null) (A' : Exa Z h0 ra0 cN0) (B' : Fld Z h0 ra0 cN0 "steps" "Ljava/util/List;" .null) (U_ra1 : Unt h0 ra1) (C' : Exa Z h0 ra1 cN2) (D' : Fld Z h0 ra1 cN2 "elementData" "[Ljava/lang/Object;" (.ref ra2)) (E' : Exa Z h0 ra2 "[Ljava/lang/Object;") (F' : Exa Z h0 ra4 cN0) (G' : Fld Z h0 ra4 cN0 "steps" "Ljava/util/List;" (.ref el)) (H' : Arv Z h0 ra2 kc3 (.object cN1) (10 : Int32) (own_rn 6 ra4 4) .null) (O_ra2 : Ovr Z kc3 cN1) (I' : Fld Z h0 ra1 cN5 "modCount" "I" (.int 6)) (J' : Fld Z h0 ra1 cN2 "size" "I" (.int 6)) (EM0 : Exa Z Z.heap em cN1) (Mmo : own_Mi Z "[Ljava/lang/Object;" mo) (SM0 : Sta Z Z.heap cN7 "EMPTY" "Ljava/lang/Object;" (.ref em)) (SE0 : Sta Z Z.heap cN7 "EMPTY_LIST" "Ljava/util/ImmutableCollections$ListN;" (.ref el)) (ne_ra1_ra2 : ra1 ≠ ra2) (K' : n0 ≤ ra0) :
  own_CN l Z y41 prog_29_method_1_code 2 none [] R5_88 #[.ref ra0, .ref ra1] h0 (Q5_88 Z ra0 ra1 ra2 kc3 ra4 el ee kee em mo h0 n0) := by
 refine own_entryN (plainFor_of_name pn_8) fun p e s m below meth c s₁ hx hby hml hown hnm hret hlk hZ hh X0 e0 => ?_
 have N0 := Fr.nil n0
 rw [ef_24_12 m ra0 ra1]
 refine og s₁ (mkF m 1 #[vR ra0, vR ra1] [.ref ra0]) (fun _ k => qa X0 hx hby d5_0 rfl rfl rfl k) ?_
 obtain ⟨T1, X1, e1, st1⟩ := initO X0 hx hZ hown (ow hw 33) (ow hw 23) (ow hw 24) e0 (g := (mkF m 1 #[vR ra0, vR ra1] [.ref ra0])) rfl (zs hml) rfl (hb hby d5_1) (by decide) (W := 0) (lb rfl) (by decide)
 refine og T1 (mkF m 6 #[vR ra0, vR ra1] [.ref ra1, .ref ra0]) (fun _ k => st1 _ (qa X1 hx hby d5_4 rfl rfl rfl (qa X1 hx hby d5_5 rfl rfl rfl k))) ?_
 obtain ⟨_, T2, L2, X2, hQ2, st2⟩ := own_tc X1 hx hZ hown (ow hw 34) (ow hw 35) (own_cpl (n := 6) (m := 4) hw C' U_ra1 D' J' I' H' E' O_ra2 F' ne_ra1_ra2 (by decide) (by decide) (by decide) (SM0.ext OLD.2) (SE0.ext OLD.2) Mmo) (ow hw 37) (ow hw 36) e1 (g := (mkF m 6 #[vR ra0, vR ra1] [.ref ra1, .ref ra0])) rfl (zs hml) (argsL := [.ref ra1]) (rest := [.ref ra0]) (lenOf pd_26 rfl) rfl (hb hby d5_6) (W := 1) rfl
 obtain ⟨o2, p2, kc2, vq2, rfl, rfl, lo2, lp2, K2, I2, F2, V2⟩ := own_q3 hQ2 (by decide)
 replace V2 : Arv Z T2.heap p2 kc2 (.object cN1) (6 : Int32) vq2 .null := V2
 have N2 := Fr.app N0 (Fr.nil n0)
 have g3 : n0 ≤ o2 := Nat.le_trans (own_osz OLD) lo2
 have z4 : h0.size ≤ o2 := Nat.le_trans (Nat.le_refl _) lo2
 have g5 : n0 ≤ p2 := Nat.le_trans (own_osz OLD) lp2
 have z6 : h0.size ≤ p2 := Nat.le_trans (Nat.le_refl _) lp2
 refine ot T2 (mkF m 9 #[vR ra0, vR ra1] [.ref o2, .ref ra0]) st2 ?_
 have F7 := (A'.keep K2)
 have F8 := (B'.keep K2 nin0)
 obtain ⟨T9, h9, X9, e9, W9, st9⟩ := putF X2 hx hZ hown (host := "") (Or.inl (ow hw 63)) Via.refl rfl F8 F7 (Or.inr ⟨(ow hw 64), rfl, hnm⟩) (ow hw 2) (ty := (.object "java/util/List")) (by decide) rfl rfl (g := (mkF m 9 #[vR ra0, vR ra1] [.ref o2, .ref ra0])) rfl rfl (hb hby d5_9)
 have Fw9 := F8.same W9
 have N9 := Fr.snoc X9 N2 K'
 refine og T9 (mkF m 12 #[vR ra0, vR ra1] []) st9 ?_
 have F10 := (I2.wr W9)
 have F11 := (F2.other W9 (Or.inl (Ne.symm (own_ne_lo A'.lt lo2))))
 have F12 := (V2.other W9 (Ne.symm (own_ne_lo A'.lt lp2)))
 have KEEP := (((Keep.refl h0 [ra0]).trans K2 all0).wr W9 (Or.inl (List.mem_of_getElem? (i := 0) rfl)))
 exact own_leaveN X9 hlk (v := none) (fun _ => rfl) (lb rfl) (lb rfl) (by rw [e9]; exact ⟨o2, p2, kc2, vq2, rfl, N9, KEEP, z4, z6, Fw9, F10, F11, F12⟩) (fun fs hr => X9.returnOut hx hret (hb hby d5_12) hr)
abbrev R5_89 : Room := { frames := 9, cells := 3, slots := 20, locals := 143 }
def Q5_89 (Z : State) (ra0 ra1 ra2 : Addr) (kc3 : ClassId) (ra4 el ee : Addr) (kee : ClassId) (em mo : Addr) (h0 : Heap) (n0 : Nat) (v : Option Value) (h : Heap) (L : List Loc) : Prop := (∃ (o2 p2 : Addr) (kc2 : ClassId) (vq2 : List Value), v = none ∧ Fr n0 L ∧ Keep h0 h [ra0] ∧ h0.size ≤ o2 ∧ h0.size ≤ p2 ∧ Fld Z h ra0 cN0 "steps" "Ljava/util/List;" (.ref o2) ∧ own_Is Z h o2 cN3 ∧ Fld Z h o2 cN3 "elements" "[Ljava/lang/Object;" (.ref p2) ∧ Arv Z h p2 kc2 (.object cN1) (5 : Int32) vq2 .null)
theorem rm5_89 l Z a0 (hw : HW Z a0) ra0 ra1 ra2 kc3 ra4 el ee kee em mo h0 n0 (OLD : Old Z n0 h0) (EE0 : Exa Z Z.heap el cN3) (FE0 : Fld Z Z.heap el cN3 "elements" "[Ljava/lang/Object;" (.ref ee)) (VE0 : Arv Z Z.heap ee kee (.object cN1) (0 : Int32) [] .null) (A' : Exa Z h0 ra0 cN0) (B' : Fld Z h0 ra0 cN0 "steps" "Ljava/util/List;" .null) (U_ra1 : Unt h0 ra1) (C' : Exa Z h0 ra1 cN2) (D' : Fld Z h0 ra1 cN2 "elementData" "[Ljava/lang/Object;" (.ref ra2)) (E' : Exa Z h0 ra2 "[Ljava/lang/Object;") (F' : Exa Z h0 ra4 cN0) (G' : Fld Z h0 ra4 cN0 "steps" "Ljava/util/List;" (.ref el)) (H' : Arv Z h0 ra2 kc3 (.object cN1) (10 : Int32) (own_rn 5 ra4 5) .null) (O_ra2 : Ovr Z kc3 cN1) (I' : Fld Z h0 ra1 cN5 "modCount" "I" (.int 5)) (J' : Fld Z h0 ra1 cN2 "size" "I" (.int 5)) (EM0 : Exa Z Z.heap em cN1) (Mmo : own_Mi Z "[Ljava/lang/Object;" mo) (SM0 : Sta Z Z.heap cN7 "EMPTY" "Ljava/lang/Object;" (.ref em)) (SE0 : Sta Z Z.heap cN7 "EMPTY_LIST" "Ljava/util/ImmutableCollections$ListN;" (.ref el)) (ne_ra1_ra2 : ra1 ≠ ra2) (K' : n0 ≤ ra0) :
  own_CN l Z y41 prog_29_method_1_code 2 none [] R5_89 #[.ref ra0, .ref ra1] h0 (Q5_89 Z ra0 ra1 ra2 kc3 ra4 el ee kee em mo h0 n0) := by
 refine own_entryN (plainFor_of_name pn_8) fun p e s m below meth c s₁ hx hby hml hown hnm hret hlk hZ hh X0 e0 => ?_
 have N0 := Fr.nil n0
 rw [ef_24_12 m ra0 ra1]
 refine og s₁ (mkF m 1 #[vR ra0, vR ra1] [.ref ra0]) (fun _ k => qa X0 hx hby d5_0 rfl rfl rfl k) ?_
 obtain ⟨T1, X1, e1, st1⟩ := initO X0 hx hZ hown (ow hw 33) (ow hw 23) (ow hw 24) e0 (g := (mkF m 1 #[vR ra0, vR ra1] [.ref ra0])) rfl (zs hml) rfl (hb hby d5_1) (by decide) (W := 0) (lb rfl) (by decide)
 refine og T1 (mkF m 6 #[vR ra0, vR ra1] [.ref ra1, .ref ra0]) (fun _ k => st1 _ (qa X1 hx hby d5_4 rfl rfl rfl (qa X1 hx hby d5_5 rfl rfl rfl k))) ?_
 obtain ⟨_, T2, L2, X2, hQ2, st2⟩ := own_tc X1 hx hZ hown (ow hw 34) (ow hw 35) (own_cpl (n := 5) (m := 5) hw C' U_ra1 D' J' I' H' E' O_ra2 F' ne_ra1_ra2 (by decide) (by decide) (by decide) (SM0.ext OLD.2) (SE0.ext OLD.2) Mmo) (ow hw 37) (ow hw 36) e1 (g := (mkF m 6 #[vR ra0, vR ra1] [.ref ra1, .ref ra0])) rfl (zs hml) (argsL := [.ref ra1]) (rest := [.ref ra0]) (lenOf pd_26 rfl) rfl (hb hby d5_6) (W := 1) rfl
 obtain ⟨o2, p2, kc2, vq2, rfl, rfl, lo2, lp2, K2, I2, F2, V2⟩ := own_q3 hQ2 (by decide)
 replace V2 : Arv Z T2.heap p2 kc2 (.object cN1) (5 : Int32) vq2 .null := V2
 have N2 := Fr.app N0 (Fr.nil n0)
 have g3 : n0 ≤ o2 := Nat.le_trans (own_osz OLD) lo2
 have z4 : h0.size ≤ o2 := Nat.le_trans (Nat.le_refl _) lo2
 have g5 : n0 ≤ p2 := Nat.le_trans (own_osz OLD) lp2
 have z6 : h0.size ≤ p2 := Nat.le_trans (Nat.le_refl _) lp2
 refine ot T2 (mkF m 9 #[vR ra0, vR ra1] [.ref o2, .ref ra0]) st2 ?_
 have F7 := (A'.keep K2)
 have F8 := (B'.keep K2 nin0)
 obtain ⟨T9, h9, X9, e9, W9, st9⟩ := putF X2 hx hZ hown (host := "") (Or.inl (ow hw 63)) Via.refl rfl F8 F7 (Or.inr ⟨(ow hw 64), rfl, hnm⟩) (ow hw 2) (ty := (.object "java/util/List")) (by decide) rfl rfl (g := (mkF m 9 #[vR ra0, vR ra1] [.ref o2, .ref ra0])) rfl rfl (hb hby d5_9)
 have Fw9 := F8.same W9
 have N9 := Fr.snoc X9 N2 K'
 refine og T9 (mkF m 12 #[vR ra0, vR ra1] []) st9 ?_
 have F10 := (I2.wr W9)
 have F11 := (F2.other W9 (Or.inl (Ne.symm (own_ne_lo A'.lt lo2))))
 have F12 := (V2.other W9 (Ne.symm (own_ne_lo A'.lt lp2)))
 have KEEP := (((Keep.refl h0 [ra0]).trans K2 all0).wr W9 (Or.inl (List.mem_of_getElem? (i := 0) rfl)))
 exact own_leaveN X9 hlk (v := none) (fun _ => rfl) (lb rfl) (lb rfl) (by rw [e9]; exact ⟨o2, p2, kc2, vq2, rfl, N9, KEEP, z4, z6, Fw9, F10, F11, F12⟩) (fun fs hr => X9.returnOut hx hret (hb hby d5_12) hr)
abbrev R5_90 : Room := { frames := 9, cells := 3, slots := 20, locals := 143 }
def Q5_90 (Z : State) (ra0 ra1 ra2 : Addr) (kc3 : ClassId) (ra4 el ee : Addr) (kee : ClassId) (em mo : Addr) (h0 : Heap) (n0 : Nat) (v : Option Value) (h : Heap) (L : List Loc) : Prop := (∃ (o2 p2 : Addr) (kc2 : ClassId) (vq2 : List Value), v = none ∧ Fr n0 L ∧ Keep h0 h [ra0] ∧ h0.size ≤ o2 ∧ h0.size ≤ p2 ∧ Fld Z h ra0 cN0 "steps" "Ljava/util/List;" (.ref o2) ∧ own_Is Z h o2 cN3 ∧ Fld Z h o2 cN3 "elements" "[Ljava/lang/Object;" (.ref p2) ∧ Arv Z h p2 kc2 (.object cN1) (4 : Int32) vq2 .null)
theorem rm5_90 l Z a0 (hw : HW Z a0) ra0 ra1 ra2 kc3 ra4 el ee kee em mo h0 n0 (OLD : Old Z n0 h0) (EE0 : Exa Z Z.heap el cN3) (FE0 : Fld Z Z.heap el cN3 "elements" "[Ljava/lang/Object;" (.ref ee)) (VE0 : Arv Z Z.heap ee kee (.object cN1) (0 : Int32) [] .null) (A' : Exa Z h0 ra0 cN0) (B' : Fld Z h0 ra0 cN0 "steps" "Ljava/util/List;" .null) (U_ra1 : Unt h0 ra1) (C' : Exa Z h0 ra1 cN2) (D' : Fld Z h0 ra1 cN2 "elementData" "[Ljava/lang/Object;" (.ref ra2)) (E' : Exa Z h0 ra2 "[Ljava/lang/Object;") (F' : Exa Z h0 ra4 cN0) (G' : Fld Z h0 ra4 cN0 "steps" "Ljava/util/List;" (.ref el)) (H' : Arv Z h0 ra2 kc3 (.object cN1) (10 : Int32) (own_rn 4 ra4 6) .null) (O_ra2 : Ovr Z kc3 cN1) (I' : Fld Z h0 ra1 cN5 "modCount" "I" (.int 4)) (J' : Fld Z h0 ra1 cN2 "size" "I" (.int 4)) (EM0 : Exa Z Z.heap em cN1) (Mmo : own_Mi Z "[Ljava/lang/Object;" mo) (SM0 : Sta Z Z.heap cN7 "EMPTY" "Ljava/lang/Object;" (.ref em)) (SE0 : Sta Z Z.heap cN7 "EMPTY_LIST" "Ljava/util/ImmutableCollections$ListN;" (.ref el)) (ne_ra1_ra2 : ra1 ≠ ra2) (K' : n0 ≤ ra0) :
  own_CN l Z y41 prog_29_method_1_code 2 none [] R5_90 #[.ref ra0, .ref ra1] h0 (Q5_90 Z ra0 ra1 ra2 kc3 ra4 el ee kee em mo h0 n0) := by
 refine own_entryN (plainFor_of_name pn_8) fun p e s m below meth c s₁ hx hby hml hown hnm hret hlk hZ hh X0 e0 => ?_
 have N0 := Fr.nil n0
 rw [ef_24_12 m ra0 ra1]
 refine og s₁ (mkF m 1 #[vR ra0, vR ra1] [.ref ra0]) (fun _ k => qa X0 hx hby d5_0 rfl rfl rfl k) ?_
 obtain ⟨T1, X1, e1, st1⟩ := initO X0 hx hZ hown (ow hw 33) (ow hw 23) (ow hw 24) e0 (g := (mkF m 1 #[vR ra0, vR ra1] [.ref ra0])) rfl (zs hml) rfl (hb hby d5_1) (by decide) (W := 0) (lb rfl) (by decide)
 refine og T1 (mkF m 6 #[vR ra0, vR ra1] [.ref ra1, .ref ra0]) (fun _ k => st1 _ (qa X1 hx hby d5_4 rfl rfl rfl (qa X1 hx hby d5_5 rfl rfl rfl k))) ?_
 obtain ⟨_, T2, L2, X2, hQ2, st2⟩ := own_tc X1 hx hZ hown (ow hw 34) (ow hw 35) (own_cpl (n := 4) (m := 6) hw C' U_ra1 D' J' I' H' E' O_ra2 F' ne_ra1_ra2 (by decide) (by decide) (by decide) (SM0.ext OLD.2) (SE0.ext OLD.2) Mmo) (ow hw 37) (ow hw 36) e1 (g := (mkF m 6 #[vR ra0, vR ra1] [.ref ra1, .ref ra0])) rfl (zs hml) (argsL := [.ref ra1]) (rest := [.ref ra0]) (lenOf pd_26 rfl) rfl (hb hby d5_6) (W := 1) rfl
 obtain ⟨o2, p2, kc2, vq2, rfl, rfl, lo2, lp2, K2, I2, F2, V2⟩ := own_q3 hQ2 (by decide)
 replace V2 : Arv Z T2.heap p2 kc2 (.object cN1) (4 : Int32) vq2 .null := V2
 have N2 := Fr.app N0 (Fr.nil n0)
 have g3 : n0 ≤ o2 := Nat.le_trans (own_osz OLD) lo2
 have z4 : h0.size ≤ o2 := Nat.le_trans (Nat.le_refl _) lo2
 have g5 : n0 ≤ p2 := Nat.le_trans (own_osz OLD) lp2
 have z6 : h0.size ≤ p2 := Nat.le_trans (Nat.le_refl _) lp2
 refine ot T2 (mkF m 9 #[vR ra0, vR ra1] [.ref o2, .ref ra0]) st2 ?_
 have F7 := (A'.keep K2)
 have F8 := (B'.keep K2 nin0)
 obtain ⟨T9, h9, X9, e9, W9, st9⟩ := putF X2 hx hZ hown (host := "") (Or.inl (ow hw 63)) Via.refl rfl F8 F7 (Or.inr ⟨(ow hw 64), rfl, hnm⟩) (ow hw 2) (ty := (.object "java/util/List")) (by decide) rfl rfl (g := (mkF m 9 #[vR ra0, vR ra1] [.ref o2, .ref ra0])) rfl rfl (hb hby d5_9)
 have Fw9 := F8.same W9
 have N9 := Fr.snoc X9 N2 K'
 refine og T9 (mkF m 12 #[vR ra0, vR ra1] []) st9 ?_
 have F10 := (I2.wr W9)
 have F11 := (F2.other W9 (Or.inl (Ne.symm (own_ne_lo A'.lt lo2))))
 have F12 := (V2.other W9 (Ne.symm (own_ne_lo A'.lt lp2)))
 have KEEP := (((Keep.refl h0 [ra0]).trans K2 all0).wr W9 (Or.inl (List.mem_of_getElem? (i := 0) rfl)))
 exact own_leaveN X9 hlk (v := none) (fun _ => rfl) (lb rfl) (lb rfl) (by rw [e9]; exact ⟨o2, p2, kc2, vq2, rfl, N9, KEEP, z4, z6, Fw9, F10, F11, F12⟩) (fun fs hr => X9.returnOut hx hret (hb hby d5_12) hr)
abbrev R5_91 : Room := { frames := 9, cells := 3, slots := 20, locals := 143 }
def Q5_91 (Z : State) (ra0 ra1 ra2 : Addr) (kc3 : ClassId) (ra4 el ee : Addr) (kee : ClassId) (em mo : Addr) (h0 : Heap) (n0 : Nat) (v : Option Value) (h : Heap) (L : List Loc) : Prop := (∃ (o2 p2 : Addr) (kc2 : ClassId) (vq2 : List Value), v = none ∧ Fr n0 L ∧ Keep h0 h [ra0] ∧ h0.size ≤ o2 ∧ h0.size ≤ p2 ∧ Fld Z h ra0 cN0 "steps" "Ljava/util/List;" (.ref o2) ∧ own_Is Z h o2 cN3 ∧ Fld Z h o2 cN3 "elements" "[Ljava/lang/Object;" (.ref p2) ∧ Arv Z h p2 kc2 (.object cN1) (3 : Int32) vq2 .null)
theorem rm5_91 l Z a0 (hw : HW Z a0) ra0 ra1 ra2 kc3 ra4 el ee kee em mo h0 n0 (OLD : Old Z n0 h0) (EE0 : Exa Z Z.heap el cN3) (FE0 : Fld Z Z.heap el cN3 "elements" "[Ljava/lang/Object;" (.ref ee)) (VE0 : Arv Z Z.heap ee kee (.object cN1) (0 : Int32) [] .null) (A' : Exa Z h0 ra0 cN0) (B' : Fld Z h0 ra0 cN0 "steps" "Ljava/util/List;" .null) (U_ra1 : Unt h0 ra1) (C' : Exa Z h0 ra1 cN2) (D' : Fld Z h0 ra1 cN2 "elementData" "[Ljava/lang/Object;" (.ref ra2)) (E' : Exa Z h0 ra2 "[Ljava/lang/Object;") (F' : Exa Z h0 ra4 cN0) (G' : Fld Z h0 ra4 cN0 "steps" "Ljava/util/List;" (.ref el)) (H' : Arv Z h0 ra2 kc3 (.object cN1) (10 : Int32) (own_rn 3 ra4 7) .null) (O_ra2 : Ovr Z kc3 cN1) (I' : Fld Z h0 ra1 cN5 "modCount" "I" (.int 3)) (J' : Fld Z h0 ra1 cN2 "size" "I" (.int 3)) (EM0 : Exa Z Z.heap em cN1) (Mmo : own_Mi Z "[Ljava/lang/Object;" mo) (SM0 : Sta Z Z.heap cN7 "EMPTY" "Ljava/lang/Object;" (.ref em)) (SE0 : Sta Z Z.heap cN7 "EMPTY_LIST" "Ljava/util/ImmutableCollections$ListN;" (.ref el)) (ne_ra1_ra2 : ra1 ≠ ra2) (K' : n0 ≤ ra0) :
  own_CN l Z y41 prog_29_method_1_code 2 none [] R5_91 #[.ref ra0, .ref ra1] h0 (Q5_91 Z ra0 ra1 ra2 kc3 ra4 el ee kee em mo h0 n0) := by
 refine own_entryN (plainFor_of_name pn_8) fun p e s m below meth c s₁ hx hby hml hown hnm hret hlk hZ hh X0 e0 => ?_
 have N0 := Fr.nil n0
 rw [ef_24_12 m ra0 ra1]
 refine og s₁ (mkF m 1 #[vR ra0, vR ra1] [.ref ra0]) (fun _ k => qa X0 hx hby d5_0 rfl rfl rfl k) ?_
 obtain ⟨T1, X1, e1, st1⟩ := initO X0 hx hZ hown (ow hw 33) (ow hw 23) (ow hw 24) e0 (g := (mkF m 1 #[vR ra0, vR ra1] [.ref ra0])) rfl (zs hml) rfl (hb hby d5_1) (by decide) (W := 0) (lb rfl) (by decide)
 refine og T1 (mkF m 6 #[vR ra0, vR ra1] [.ref ra1, .ref ra0]) (fun _ k => st1 _ (qa X1 hx hby d5_4 rfl rfl rfl (qa X1 hx hby d5_5 rfl rfl rfl k))) ?_
 obtain ⟨_, T2, L2, X2, hQ2, st2⟩ := own_tc X1 hx hZ hown (ow hw 34) (ow hw 35) (own_cpl (n := 3) (m := 7) hw C' U_ra1 D' J' I' H' E' O_ra2 F' ne_ra1_ra2 (by decide) (by decide) (by decide) (SM0.ext OLD.2) (SE0.ext OLD.2) Mmo) (ow hw 37) (ow hw 36) e1 (g := (mkF m 6 #[vR ra0, vR ra1] [.ref ra1, .ref ra0])) rfl (zs hml) (argsL := [.ref ra1]) (rest := [.ref ra0]) (lenOf pd_26 rfl) rfl (hb hby d5_6) (W := 1) rfl
 obtain ⟨o2, p2, kc2, vq2, rfl, rfl, lo2, lp2, K2, I2, F2, V2⟩ := own_q3 hQ2 (by decide)
 replace V2 : Arv Z T2.heap p2 kc2 (.object cN1) (3 : Int32) vq2 .null := V2
 have N2 := Fr.app N0 (Fr.nil n0)
 have g3 : n0 ≤ o2 := Nat.le_trans (own_osz OLD) lo2
 have z4 : h0.size ≤ o2 := Nat.le_trans (Nat.le_refl _) lo2
 have g5 : n0 ≤ p2 := Nat.le_trans (own_osz OLD) lp2
 have z6 : h0.size ≤ p2 := Nat.le_trans (Nat.le_refl _) lp2
 refine ot T2 (mkF m 9 #[vR ra0, vR ra1] [.ref o2, .ref ra0]) st2 ?_
 have F7 := (A'.keep K2)
 have F8 := (B'.keep K2 nin0)
 obtain ⟨T9, h9, X9, e9, W9, st9⟩ := putF X2 hx hZ hown (host := "") (Or.inl (ow hw 63)) Via.refl rfl F8 F7 (Or.inr ⟨(ow hw 64), rfl, hnm⟩) (ow hw 2) (ty := (.object "java/util/List")) (by decide) rfl rfl (g := (mkF m 9 #[vR ra0, vR ra1] [.ref o2, .ref ra0])) rfl rfl (hb hby d5_9)
 have Fw9 := F8.same W9
 have N9 := Fr.snoc X9 N2 K'
 refine og T9 (mkF m 12 #[vR ra0, vR ra1] []) st9 ?_
 have F10 := (I2.wr W9)
 have F11 := (F2.other W9 (Or.inl (Ne.symm (own_ne_lo A'.lt lo2))))
 have F12 := (V2.other W9 (Ne.symm (own_ne_lo A'.lt lp2)))
 have KEEP := (((Keep.refl h0 [ra0]).trans K2 all0).wr W9 (Or.inl (List.mem_of_getElem? (i := 0) rfl)))
 exact own_leaveN X9 hlk (v := none) (fun _ => rfl) (lb rfl) (lb rfl) (by rw [e9]; exact ⟨o2, p2, kc2, vq2, rfl, N9, KEEP, z4, z6, Fw9, F10, F11, F12⟩) (fun fs hr => X9.returnOut hx hret (hb hby d5_12) hr)
abbrev R5_92 : Room := { frames := 9, cells := 3, slots := 20, locals := 143 }
def Q5_92 (Z : State) (ra0 ra1 ra2 : Addr) (kc3 : ClassId) (ra4 el ee : Addr) (kee : ClassId) (em mo : Addr) (h0 : Heap) (n0 : Nat) (v : Option Value) (h : Heap) (L : List Loc) : Prop := (∃ (o2 : Addr), v = none ∧ Fr n0 L ∧ Keep h0 h [ra0] ∧ h0.size ≤ o2 ∧ Fld Z h ra0 cN0 "steps" "Ljava/util/List;" (.ref o2) ∧ own_Is Z h o2 "java/util/ImmutableCollections$List12" ∧ Fld Z h o2 "java/util/ImmutableCollections$List12" "e1" "Ljava/lang/Object;" (.ref ra4))
theorem rm5_92 l Z a0 (hw : HW Z a0) ra0 ra1 ra2 kc3 ra4 el ee kee em mo h0 n0 (OLD : Old Z n0 h0) (EE0 : Exa Z Z.heap el cN3) (FE0 : Fld Z Z.heap el cN3 "elements" "[Ljava/lang/Object;" (.ref ee)) (VE0 : Arv Z Z.heap ee kee (.object cN1) (0 : Int32) [] .null) (A' : Exa Z h0 ra0 cN0) (B' : Fld Z h0 ra0 cN0 "steps" "Ljava/util/List;" .null) (U_ra1 : Unt h0 ra1) (C' : Exa Z h0 ra1 cN2) (D' : Fld Z h0 ra1 cN2 "elementData" "[Ljava/lang/Object;" (.ref ra2)) (E' : Exa Z h0 ra2 "[Ljava/lang/Object;") (F' : Exa Z h0 ra4 cN0) (G' : Fld Z h0 ra4 cN0 "steps" "Ljava/util/List;" (.ref el)) (H' : Arv Z h0 ra2 kc3 (.object cN1) (10 : Int32) (own_rn 2 ra4 8) .null) (O_ra2 : Ovr Z kc3 cN1) (I' : Fld Z h0 ra1 cN5 "modCount" "I" (.int 2)) (J' : Fld Z h0 ra1 cN2 "size" "I" (.int 2)) (EM0 : Exa Z Z.heap em cN1) (Mmo : own_Mi Z "[Ljava/lang/Object;" mo) (SM0 : Sta Z Z.heap cN7 "EMPTY" "Ljava/lang/Object;" (.ref em)) (SE0 : Sta Z Z.heap cN7 "EMPTY_LIST" "Ljava/util/ImmutableCollections$ListN;" (.ref el)) (ne_ra1_ra2 : ra1 ≠ ra2) (K' : n0 ≤ ra0) :
  own_CN l Z y41 prog_29_method_1_code 2 none [] R5_92 #[.ref ra0, .ref ra1] h0 (Q5_92 Z ra0 ra1 ra2 kc3 ra4 el ee kee em mo h0 n0) := by
 refine own_entryN (plainFor_of_name pn_8) fun p e s m below meth c s₁ hx hby hml hown hnm hret hlk hZ hh X0 e0 => ?_
 have N0 := Fr.nil n0
 rw [ef_24_12 m ra0 ra1]
 refine og s₁ (mkF m 1 #[vR ra0, vR ra1] [.ref ra0]) (fun _ k => qa X0 hx hby d5_0 rfl rfl rfl k) ?_
 obtain ⟨T1, X1, e1, st1⟩ := initO X0 hx hZ hown (ow hw 33) (ow hw 23) (ow hw 24) e0 (g := (mkF m 1 #[vR ra0, vR ra1] [.ref ra0])) rfl (zs hml) rfl (hb hby d5_1) (by decide) (W := 0) (lb rfl) (by decide)
 refine og T1 (mkF m 6 #[vR ra0, vR ra1] [.ref ra1, .ref ra0]) (fun _ k => st1 _ (qa X1 hx hby d5_4 rfl rfl rfl (qa X1 hx hby d5_5 rfl rfl rfl k))) ?_
 obtain ⟨_, T2, L2, X2, hQ2, st2⟩ := own_tc X1 hx hZ hown (ow hw 34) (ow hw 35) (own_cpl (n := 2) (m := 8) hw C' U_ra1 D' J' I' H' E' O_ra2 F' ne_ra1_ra2 (by decide) (by decide) (by decide) (SM0.ext OLD.2) (SE0.ext OLD.2) Mmo) (ow hw 37) (ow hw 36) e1 (g := (mkF m 6 #[vR ra0, vR ra1] [.ref ra1, .ref ra0])) rfl (zs hml) (argsL := [.ref ra1]) (rest := [.ref ra0]) (lenOf pd_26 rfl) rfl (hb hby d5_6) (W := 1) rfl
 obtain ⟨o2, rfl, rfl, lo2, K2, I2, F2⟩ := own_q2 hQ2
 have N2 := Fr.app N0 (Fr.nil n0)
 have g3 : n0 ≤ o2 := Nat.le_trans (own_osz OLD) lo2
 have z4 : h0.size ≤ o2 := Nat.le_trans (Nat.le_refl _) lo2
 refine ot T2 (mkF m 9 #[vR ra0, vR ra1] [.ref o2, .ref ra0]) st2 ?_
 have F5 := (A'.keep K2)
 have F6 := (B'.keep K2 nin0)
 obtain ⟨T7, h7, X7, e7, W7, st7⟩ := putF X2 hx hZ hown (host := "") (Or.inl (ow hw 63)) Via.refl rfl F6 F5 (Or.inr ⟨(ow hw 64), rfl, hnm⟩) (ow hw 2) (ty := (.object "java/util/List")) (by decide) rfl rfl (g := (mkF m 9 #[vR ra0, vR ra1] [.ref o2, .ref ra0])) rfl rfl (hb hby d5_9)
 have Fw7 := F6.same W7
 have N7 := Fr.snoc X7 N2 K'
 refine og T7 (mkF m 12 #[vR ra0, vR ra1] []) st7 ?_
 have F8 := (I2.wr W7)
 have F9 := (F2.other W7 (Or.inl (Ne.symm (own_ne_lo A'.lt lo2))))
 have KEEP := (((Keep.refl h0 [ra0]).trans K2 all0).wr W7 (Or.inl (List.mem_of_getElem? (i := 0) rfl)))
 exact own_leaveN X7 hlk (v := none) (fun _ => rfl) (lb rfl) (lb rfl) (by rw [e7]; exact ⟨o2, rfl, N7, KEEP, z4, Fw7, F8, F9⟩) (fun fs hr => X7.returnOut hx hret (hb hby d5_12) hr)
abbrev R5_93 : Room := { frames := 9, cells := 3, slots := 20, locals := 143 }
def Q5_93 (Z : State) (ra0 ra1 ra2 : Addr) (kc3 : ClassId) (ra4 el ee : Addr) (kee : ClassId) (em mo : Addr) (h0 : Heap) (n0 : Nat) (v : Option Value) (h : Heap) (L : List Loc) : Prop := (∃ (o2 : Addr), v = none ∧ Fr n0 L ∧ Keep h0 h [ra0] ∧ h0.size ≤ o2 ∧ Fld Z h ra0 cN0 "steps" "Ljava/util/List;" (.ref o2) ∧ own_Is Z h o2 "java/util/ImmutableCollections$List12" ∧ Fld Z h o2 "java/util/ImmutableCollections$List12" "e1" "Ljava/lang/Object;" (.ref em))
theorem rm5_93 l Z a0 (hw : HW Z a0) ra0 ra1 ra2 kc3 ra4 el ee kee em mo h0 n0 (OLD : Old Z n0 h0) (EE0 : Exa Z Z.heap el cN3) (FE0 : Fld Z Z.heap el cN3 "elements" "[Ljava/lang/Object;" (.ref ee)) (VE0 : Arv Z Z.heap ee kee (.object cN1) (0 : Int32) [] .null) (A' : Exa Z h0 ra0 cN0) (B' : Fld Z h0 ra0 cN0 "steps" "Ljava/util/List;" .null) (U_ra1 : Unt h0 ra1) (C' : Exa Z h0 ra1 cN2) (D' : Fld Z h0 ra1 cN2 "elementData" "[Ljava/lang/Object;" (.ref ra2)) (E' : Exa Z h0 ra2 "[Ljava/lang/Object;") (F' : Exa Z h0 ra4 cN0) (G' : Fld Z h0 ra4 cN0 "steps" "Ljava/util/List;" (.ref el)) (H' : Arv Z h0 ra2 kc3 (.object cN1) (10 : Int32) (own_rn 1 ra4 9) .null) (O_ra2 : Ovr Z kc3 cN1) (I' : Fld Z h0 ra1 cN5 "modCount" "I" (.int 1)) (J' : Fld Z h0 ra1 cN2 "size" "I" (.int 1)) (EM0 : Exa Z Z.heap em cN1) (Mmo : own_Mi Z "[Ljava/lang/Object;" mo) (SM0 : Sta Z Z.heap cN7 "EMPTY" "Ljava/lang/Object;" (.ref em)) (SE0 : Sta Z Z.heap cN7 "EMPTY_LIST" "Ljava/util/ImmutableCollections$ListN;" (.ref el)) (ne_ra1_ra2 : ra1 ≠ ra2) (K' : n0 ≤ ra0) :
  own_CN l Z y41 prog_29_method_1_code 2 none [] R5_93 #[.ref ra0, .ref ra1] h0 (Q5_93 Z ra0 ra1 ra2 kc3 ra4 el ee kee em mo h0 n0) := by
 refine own_entryN (plainFor_of_name pn_8) fun p e s m below meth c s₁ hx hby hml hown hnm hret hlk hZ hh X0 e0 => ?_
 have N0 := Fr.nil n0
 rw [ef_24_12 m ra0 ra1]
 refine og s₁ (mkF m 1 #[vR ra0, vR ra1] [.ref ra0]) (fun _ k => qa X0 hx hby d5_0 rfl rfl rfl k) ?_
 obtain ⟨T1, X1, e1, st1⟩ := initO X0 hx hZ hown (ow hw 33) (ow hw 23) (ow hw 24) e0 (g := (mkF m 1 #[vR ra0, vR ra1] [.ref ra0])) rfl (zs hml) rfl (hb hby d5_1) (by decide) (W := 0) (lb rfl) (by decide)
 refine og T1 (mkF m 6 #[vR ra0, vR ra1] [.ref ra1, .ref ra0]) (fun _ k => st1 _ (qa X1 hx hby d5_4 rfl rfl rfl (qa X1 hx hby d5_5 rfl rfl rfl k))) ?_
 obtain ⟨_, T2, L2, X2, hQ2, st2⟩ := own_tc X1 hx hZ hown (ow hw 34) (ow hw 35) (own_cpl (n := 1) (m := 9) hw C' U_ra1 D' J' I' H' E' O_ra2 F' ne_ra1_ra2 (by decide) (by decide) (by decide) (SM0.ext OLD.2) (SE0.ext OLD.2) Mmo) (ow hw 37) (ow hw 36) e1 (g := (mkF m 6 #[vR ra0, vR ra1] [.ref ra1, .ref ra0])) rfl (zs hml) (argsL := [.ref ra1]) (rest := [.ref ra0]) (lenOf pd_26 rfl) rfl (hb hby d5_6) (W := 1) rfl
 obtain ⟨o2, rfl, rfl, lo2, K2, I2, F2⟩ := own_q1 hQ2
 have N2 := Fr.app N0 (Fr.nil n0)
 have g3 : n0 ≤ o2 := Nat.le_trans (own_osz OLD) lo2
 have z4 : h0.size ≤ o2 := Nat.le_trans (Nat.le_refl _) lo2
 refine ot T2 (mkF m 9 #[vR ra0, vR ra1] [.ref o2, .ref ra0]) st2 ?_
 have F5 := (A'.keep K2)
 have F6 := (B'.keep K2 nin0)
 obtain ⟨T7, h7, X7, e7, W7, st7⟩ := putF X2 hx hZ hown (host := "") (Or.inl (ow hw 63)) Via.refl rfl F6 F5 (Or.inr ⟨(ow hw 64), rfl, hnm⟩) (ow hw 2) (ty := (.object "java/util/List")) (by decide) rfl rfl (g := (mkF m 9 #[vR ra0, vR ra1] [.ref o2, .ref ra0])) rfl rfl (hb hby d5_9)
 have Fw7 := F6.same W7
 have N7 := Fr.snoc X7 N2 K'
 refine og T7 (mkF m 12 #[vR ra0, vR ra1] []) st7 ?_
 have F8 := (I2.wr W7)
 have F9 := (F2.other W7 (Or.inl (Ne.symm (own_ne_lo A'.lt lo2))))
 have KEEP := (((Keep.refl h0 [ra0]).trans K2 all0).wr W7 (Or.inl (List.mem_of_getElem? (i := 0) rfl)))
 exact own_leaveN X7 hlk (v := none) (fun _ => rfl) (lb rfl) (lb rfl) (by rw [e7]; exact ⟨o2, rfl, N7, KEEP, z4, Fw7, F8, F9⟩) (fun fs hr => X7.returnOut hx hret (hb hby d5_12) hr)
def Qlaw (Z : State) (pi0 pi1 : Int32) (em : Addr) (G1 : Int32) (dg : Addr) (kdg : ClassId) (da : Addr) (kda : ClassId) (el ee : Addr) (kee : ClassId) (mo : Addr) (h0 : Heap) (n0 : Nat) (v : Option Value) (h : Heap) (L : List Loc) : Prop := (v = some (.int 1) ∧ Fr n0 L)
theorem rmlaw l Z a0 (hw : HW Z a0) (pi0 : Int32) (pi1 : Int32) em (G1 : Int32) dg kdg da kda el ee kee mo h0 n0 (OLD : Old Z n0 h0) (EM0 : Exa Z Z.heap em cN1) (SM0 : Sta Z Z.heap cN7 "EMPTY" "Ljava/lang/Object;" (.ref em)) (O2 : Sta Z Z.heap cN6 "COMPACT_STRINGS" "Z" (.int G1)) (P5 : ¬ (G1 = (0 : Int32))) (SG0 : Sta Z Z.heap "java/lang/Integer" "DigitOnes" "[B" (.ref dg)) (VG0 : Arv Z Z.heap dg kdg .byte (100 : Int32) own_dig (.int 0)) (SD0 : Sta Z Z.heap cN2 "DEFAULTCAPACITY_EMPTY_ELEMENTDATA" "[Ljava/lang/Object;" (.ref da)) (VD0 : Arv Z Z.heap da kda (.object cN1) (0 : Int32) [] .null) (SE0 : Sta Z Z.heap cN7 "EMPTY_LIST" "Ljava/util/ImmutableCollections$ListN;" (.ref el)) (EE0 : Exa Z Z.heap el cN3) (FE0 : Fld Z Z.heap el cN3 "elements" "[Ljava/lang/Object;" (.ref ee)) (VE0 : Arv Z Z.heap ee kee (.object cN1) (0 : Int32) [] .null) (Mmo : own_Mi Z "[Ljava/lang/Object;" mo) :
  own_CW l Z false x code maxLocals ret tables_1 room_1 #[.int pi0, .int pi1] h0 [] (Qlaw Z pi0 pi1 em G1 dg kdg da kda el ee kee mo h0 n0) := by
 refine own_entryW (plainFor_of_name pn_14) fun p e s m below meth c s₁ hx hby hml hown hnm hret hlk hZ hh hCH hSf hKn X0 e0 => ?_
 have N0 := Fr.nil n0
 have hS0 : s.Since s.vm h0.size := own_since s _
 have hk0 : h0.size ≤ h0.size := Nat.le_refl _
 have CH0 : CHr Z own_EL s.vm h0 s.vm h0 := CHr.refl hCH
 rw [ef_law m pi0 pi1]
 refine og s₁ (mkF m 1 #[vI pi0, vI pi1, vU, vU, vU, vU, vU, vU, vU] [.int pi0]) (fun _ k => XS.iloadN X0.here hx rfl (hb hby at_0) rfl k) ?_
 refine og s₁ (mkF m 3 #[vI pi0, vI pi1, vU, vU, vU, vU, vU, vU, vU] [.int 2147483647, .int pi0]) (fun t k => X0.ldcInt hx hown (mvT hZ (ow hw 0)) (g := (mkF m 1 #[vI pi0, vI pi1, vU, vU, vU, vU, vU, vU, vU] [.int pi0])) rfl (hb hby at_1) t k) ?_
 refine og s₁ (mkF m 12 #[vI pi0, vI pi1, vI ((pi0 &&& (2147483647 : Int32)) % (10 : Int32)), vI (pi1 &&& (3 : Int32)), vU, vU, vU, vU, vU] []) (fun _ k => XS.iand X0.here hx rfl (hb hby at_3) rfl (XS.bipush X0.here hx rfl (hb hby at_4) (Jvm.RoadKit.iremM X0 hx rfl (hb hby at_6) rfl (by decide) (XS.istoreN X0.here hx rfl (hb hby at_7) rfl (l' := #[vI pi0, vI pi1, vI ((pi0 &&& (2147483647 : Int32)) % (10 : Int32)), vU, vU, vU, vU, vU, vU]) rfl (XS.iloadN X0.here hx rfl (hb hby at_8) rfl (XS.iconst X0.here hx rfl (hb hby at_9) (XS.iand X0.here hx rfl (hb hby at_10) rfl (XS.istoreN X0.here hx rfl (hb hby at_11) rfl (l' := #[vI pi0, vI pi1, vI ((pi0 &&& (2147483647 : Int32)) % (10 : Int32)), vI (pi1 &&& (3 : Int32)), vU, vU, vU, vU, vU]) rfl k)))))))) ?_
 obtain ⟨hr0, hr1⟩ := own_rng (pi0)
 obtain ⟨nm, enm⟩ : ∃ z, z = ((pi0 &&& (2147483647 : Int32)) % (10 : Int32)) := ⟨_, rfl⟩
 rw [← enm] at hr0 hr1 ⊢
 have J1 : ∀ (T2 : State) (L2 : List Loc) (h2 : Heap) (a4 a5 gg rr bb : Addr) (nn : Int32), own_at2 X0 T2 L2 12 130 → T2.heap = h2 → Fr n0 L2 → Keep h0 h2 [] → h0.size ≤ gg → Exa Z h2 gg cN0 → Fld Z h2 gg cN0 "steps" "Ljava/util/List;" (.ref rr) → own_lst Z em h2 rr bb nn → rr < h2.size → bb < h2.size → (∃ k : Fin 10, nn = Int32.ofNat k.val) → own_Fin p.tables e below (own_PW s Z own_EL (Qlaw Z pi0 pi1 em G1 dg kdg da kda el ee kee mo h0 n0) room_1.cells room_1.slots) T2 (mkF m 205 #[vI pi0, vI pi1, vI nn, vI (pi1 &&& (3 : Int32)), vR a4, vR a5, vR gg, vU, vU] []) := by
  intro T2 L2 h2 a4 a5 gg rr bb nn X2 e2 N2 K2 lo2 Eg Fg Qr ltr ltb hk
  unfold own_at2 at X2
  obtain ⟨hn1, hn2, hn3, hn4⟩ := own_dn nn hk
  have g3 : n0 ≤ gg := Nat.le_trans (own_osz OLD) lo2
  have z4 : h0.size ≤ gg := Nat.le_trans (Nat.le_refl _) lo2
  have ch5 := CHr.keep K2 all0 CH0.1
  have CH6 := CHr.trans CH0 ch5
  refine og T2 (mkF m 207 #[vI pi0, vI pi1, vI nn, vI (pi1 &&& (3 : Int32)), vR a4, vR a5, vR gg, vU, vU] [.ref gg]) (fun _ k => XS.aload X2.here hx rfl (hb hby at_205) rfl rfl k) ?_
  have F7 := (OLD.keep K2 all0)
  obtain ⟨cq8, kq8, q8a, q8b, q8c⟩ := isOf hZ e2 Eg
  obtain ⟨_, _, ⟨T8, L8, k8, n8⟩, -, X8, hs8, hg8, ⟨Lc8, hQ8, l8, y8, z8, ch8⟩, st8⟩ := X2.virtualBackS hx (y := y30) (z := y30) hown (mvT hZ (ow hw 94)) (mvT hZ (ow hw 95)) (notFace_of_selects (args := #[]) (mvT hZ (ow hw 97))) (mvT hZ (ow hw 97)) (mvT hZ (ow hw 96)) (by decide) (own_backSH (W := 0) (rm15_7 l Z a0 hw gg rr bb nn em G1 dg kdg h2 n0 F7 Eg Fg EM0 SM0 Qr hn1 hn2 hn3 hn4 O2 P5 ltr ltb SG0 VG0) hZ (ow hw 98) (ow hw 3) (lb rfl) (lb rfl) (own_EW hw) CH6.1 all0 nofun) q8a q8c (g := (mkF m 207 #[vI pi0, vI pi1, vI nn, vI (pi1 &&& (3 : Int32)), vR a4, vR a5, vR gg, vU, vU] [.ref gg])) rfl (zs hml) (Steps.refl _) (argsL := []) (rest := []) (lenOf pd_22 rfl) rfl (lb rfl) (hb hby at_207) (fun _ _ => ⟨rfl, e2, (lb rfl), (lb rfl)⟩)
  dsimp only [Pt.U, Pt.locs, Pt.cells, Pt.slots] at X8 l8 y8 z8 st8 hQ8 hs8 hg8 ch8
  subst l8 y8 z8
  replace X8 := own_reb X8
  have F9 := (Nat.le_trans hk0 K2.1)
  obtain ⟨hZ8, hS8, hown8⟩ := own_after hZ hS0 e2 F9 hs8 hg8 hown
  obtain ⟨o10, o11, kc12, rfl, Nq8, K8, f13, f14, f15, f16, f17, f18⟩ := hQ8
  have N8 := Fr.app N2 Nq8
  have g19 : n0 ≤ o10 := Nat.le_trans (own_osz F7) f13
  have F21 := (Nat.le_trans (Nat.le_refl _) K2.1)
  have z20 : h0.size ≤ o10 := Nat.le_trans F21 f13
  have g22 : n0 ≤ o11 := Nat.le_trans (own_osz F7) f14
  have z23 : h0.size ≤ o11 := Nat.le_trans F21 f14
  have CH24 := CHr.trans CH6 ch8
  refine og T8 (mkF m 214 #[vI pi0, vI pi1, vI nn, vI (pi1 &&& (3 : Int32)), vR a4, vR a5, vR gg, vR o10, vU] [.int 19]) (fun _ k => st8.trans (XS.astore X8.here hx rfl (hb hby at_210) rfl rfl (l' := #[vI pi0, vI pi1, vI nn, vI (pi1 &&& (3 : Int32)), vR a4, vR a5, vR gg, vR o10, vU]) rfl (XS.bipush X8.here hx rfl (hb hby at_212) k))) ?_
  obtain ⟨T25, h25, k25, X25, e25, E25, A25, st25⟩ := newP X8 hx hZ8 (ow hw 267) rfl (g := (mkF m 214 #[vI pi0, vI pi1, vI nn, vI (pi1 &&& (3 : Int32)), vR a4, vR a5, vR gg, vR o10, vU] [.int 19])) rfl (hb hby at_214) rfl (by decide) (cap := 19) (by decide) (lb rfl) (lb rfl) (lb rfl)
  obtain ⟨b25, gb25⟩ : ∃ z, z = T8.heap.size := ⟨_, rfl⟩
  rw [← gb25] at A25 st25
  have F27 := (F7.keep K8 all0)
  have g26 : n0 ≤ b25 := Nat.le_trans (own_osz F27) (Nat.le_of_eq gb25.symm)
  have F29 := (Nat.le_trans F21 K8.1)
  have z28 : h0.size ≤ b25 := Nat.le_trans F29 (Nat.le_of_eq gb25.symm)
  have ch30 := CHr.ext E25 CH24.1
  have CH31 := CHr.trans CH24 ch30
  have V25 : Arv Z h25 b25 k25 .char (19 : Int32) [.int 0, .int 0, .int 0, .int 0, .int 0, .int 0, .int 0, .int 0, .int 0, .int 0, .int 0, .int 0, .int 0, .int 0, .int 0, .int 0, .int 0, .int 0, .int 0] (.int 0) := (Arv.new A25 (by decide)).pad (pad_rep [] (.int 0) 19)
  refine og T25 (mkF m 220 #[vI pi0, vI pi1, vI nn, vI (pi1 &&& (3 : Int32)), vR a4, vR a5, vR gg, vR o10, vU] [.int 103, .int 0, .ref b25, .ref b25]) (fun _ k => st25 _ (XS.dup X25.here hx rfl (hb hby at_216) rfl rfl (XS.iconst X25.here hx rfl (hb hby at_217) (XS.bipush X25.here hx rfl (hb hby at_218) k)))) ?_
  obtain ⟨cl32, Ar32, qr32, Sr32, Nr32, Hr32, Gr32⟩ := id V25
  obtain ⟨T32, h32, X32, e32, W32, st32⟩ := stC X25 hx hZ8 e25 Ar32 (j := (0 : Int32)) (inb_of Sr32 ⟨by decide, by decide⟩) (g := (mkF m 220 #[vI pi0, vI pi1, vI nn, vI (pi1 &&& (3 : Int32)), vR a4, vR a5, vR gg, vR o10, vU] [.int 103, .int 0, .ref b25, .ref b25])) rfl rfl (hb hby at_220)
  have V32 : Arv Z h32 b25 k25 .char (19 : Int32) [(.int (nar .char (103 : Int32))), .int 0, .int 0, .int 0, .int 0, .int 0, .int 0, .int 0, .int 0, .int 0, .int 0, .int 0, .int 0, .int 0, .int 0, .int 0, .int 0, .int 0, .int 0] (.int 0) := Arv.set Ar32 qr32 Sr32 Nr32 Hr32 Gr32 (fits_nar_char _) W32 0 rfl (lb rfl)
  replace V32 : Arv Z h32 b25 k25 .char (19 : Int32) [.int 103, .int 0, .int 0, .int 0, .int 0, .int 0, .int 0, .int 0, .int 0, .int 0, .int 0, .int 0, .int 0, .int 0, .int 0, .int 0, .int 0, .int 0, .int 0] (.int 0) := V32
  obtain ⟨_, q34, -⟩ := id V25
  have ch33 := CHr.wr W32 (Safe.arr hZ8.alike q34 nofun) CH31.1
  have CH35 := CHr.trans CH31 ch33
  have N32 := Fr.snoc X32 N8 g26
  refine og T32 (mkF m 225 #[vI pi0, vI pi1, vI nn, vI (pi1 &&& (3 : Int32)), vR a4, vR a5, vR gg, vR o10, vU] [.int 114, .int 1, .ref b25, .ref b25]) (fun _ k => st32 _ (XS.dup X32.here hx rfl (hb hby at_221) rfl rfl (XS.iconst X32.here hx rfl (hb hby at_222) (XS.bipush X32.here hx rfl (hb hby at_223) k)))) ?_
  obtain ⟨cl36, Ar36, qr36, Sr36, Nr36, Hr36, Gr36⟩ := id V32
  obtain ⟨T36, h36, X36, e36, W36, st36⟩ := stC X32 hx hZ8 e32 Ar36 (j := (1 : Int32)) (inb_of Sr36 ⟨by decide, by decide⟩) (g := (mkF m 225 #[vI pi0, vI pi1, vI nn, vI (pi1 &&& (3 : Int32)), vR a4, vR a5, vR gg, vR o10, vU] [.int 114, .int 1, .ref b25, .ref b25])) rfl rfl (hb hby at_225)
  have V36 : Arv Z h36 b25 k25 .char (19 : Int32) [.int 103, (.int (nar .char (114 : Int32))), .int 0, .int 0, .int 0, .int 0, .int 0, .int 0, .int 0, .int 0, .int 0, .int 0, .int 0, .int 0, .int 0, .int 0, .int 0, .int 0, .int 0] (.int 0) := Arv.set Ar36 qr36 Sr36 Nr36 Hr36 Gr36 (fits_nar_char _) W36 1 rfl (lb rfl)
  replace V36 : Arv Z h36 b25 k25 .char (19 : Int32) [.int 103, .int 114, .int 0, .int 0, .int 0, .int 0, .int 0, .int 0, .int 0, .int 0, .int 0, .int 0, .int 0, .int 0, .int 0, .int 0, .int 0, .int 0, .int 0] (.int 0) := V36
  obtain ⟨_, q38, -⟩ := id V32
  have ch37 := CHr.wr W36 (Safe.arr hZ8.alike q38 nofun) CH35.1
  have CH39 := CHr.trans CH35 ch37
  have N36 := Fr.snoc X36 N32 g26
  refine og T36 (mkF m 230 #[vI pi0, vI pi1, vI nn, vI (pi1 &&& (3 : Int32)), vR a4, vR a5, vR gg, vR o10, vU] [.int 111, .int 2, .ref b25, .ref b25]) (fun _ k => st36 _ (XS.dup X36.here hx rfl (hb hby at_226) rfl rfl (XS.iconst X36.here hx rfl (hb hby at_227) (XS.bipush X36.here hx rfl (hb hby at_228) k)))) ?_
  obtain ⟨cl40, Ar40, qr40, Sr40, Nr40, Hr40, Gr40⟩ := id V36
  obtain ⟨T40, h40, X40, e40, W40, st40⟩ := stC X36 hx hZ8 e36 Ar40 (j := (2 : Int32)) (inb_of Sr40 ⟨by decide, by decide⟩) (g := (mkF m 230 #[vI pi0, vI pi1, vI nn, vI (pi1 &&& (3 : Int32)), vR a4, vR a5, vR gg, vR o10, vU] [.int 111, .int 2, .ref b25, .ref b25])) rfl rfl (hb hby at_230)
  have V40 : Arv Z h40 b25 k25 .char (19 : Int32) [.int 103, .int 114, (.int (nar .char (111 : Int32))), .int 0, .int 0, .int 0, .int 0, .int 0, .int 0, .int 0, .int 0, .int 0, .int 0, .int 0, .int 0, .int 0, .int 0, .int 0, .int 0] (.int 0) := Arv.set Ar40 qr40 Sr40 Nr40 Hr40 Gr40 (fits_nar_char _) W40 2 rfl (lb rfl)
  replace V40 : Arv Z h40 b25 k25 .char (19 : Int32) [.int 103, .int 114, .int 111, .int 0, .int 0, .int 0, .int 0, .int 0, .int 0, .int 0, .int 0, .int 0, .int 0, .int 0, .int 0, .int 0, .int 0, .int 0, .int 0] (.int 0) := V40
  obtain ⟨_, q42, -⟩ := id V36
  have ch41 := CHr.wr W40 (Safe.arr hZ8.alike q42 nofun) CH39.1
  have CH43 := CHr.trans CH39 ch41
  have N40 := Fr.snoc X40 N36 g26
  refine og T40 (mkF m 235 #[vI pi0, vI pi1, vI nn, vI (pi1 &&& (3 : Int32)), vR a4, vR a5, vR gg, vR o10, vU] [.int 117, .int 3, .ref b25, .ref b25]) (fun _ k => st40 _ (XS.dup X40.here hx rfl (hb hby at_231) rfl rfl (XS.iconst X40.here hx rfl (hb hby at_232) (XS.bipush X40.here hx rfl (hb hby at_233) k)))) ?_
  obtain ⟨cl44, Ar44, qr44, Sr44, Nr44, Hr44, Gr44⟩ := id V40
  obtain ⟨T44, h44, X44, e44, W44, st44⟩ := stC X40 hx hZ8 e40 Ar44 (j := (3 : Int32)) (inb_of Sr44 ⟨by decide, by decide⟩) (g := (mkF m 235 #[vI pi0, vI pi1, vI nn, vI (pi1 &&& (3 : Int32)), vR a4, vR a5, vR gg, vR o10, vU] [.int 117, .int 3, .ref b25, .ref b25])) rfl rfl (hb hby at_235)
  have V44 : Arv Z h44 b25 k25 .char (19 : Int32) [.int 103, .int 114, .int 111, (.int (nar .char (117 : Int32))), .int 0, .int 0, .int 0, .int 0, .int 0, .int 0, .int 0, .int 0, .int 0, .int 0, .int 0, .int 0, .int 0, .int 0, .int 0] (.int 0) := Arv.set Ar44 qr44 Sr44 Nr44 Hr44 Gr44 (fits_nar_char _) W44 3 rfl (lb rfl)
  replace V44 : Arv Z h44 b25 k25 .char (19 : Int32) [.int 103, .int 114, .int 111, .int 117, .int 0, .int 0, .int 0, .int 0, .int 0, .int 0, .int 0, .int 0, .int 0, .int 0, .int 0, .int 0, .int 0, .int 0, .int 0] (.int 0) := V44
  obtain ⟨_, q46, -⟩ := id V40
  have ch45 := CHr.wr W44 (Safe.arr hZ8.alike q46 nofun) CH43.1
  have CH47 := CHr.trans CH43 ch45
  have N44 := Fr.snoc X44 N40 g26
  refine og T44 (mkF m 240 #[vI pi0, vI pi1, vI nn, vI (pi1 &&& (3 : Int32)), vR a4, vR a5, vR gg, vR o10, vU] [.int 112, .int 4, .ref b25, .ref b25]) (fun _ k => st44 _ (XS.dup X44.here hx rfl (hb hby at_236) rfl rfl (XS.iconst X44.here hx rfl (hb hby at_237) (XS.bipush X44.here hx rfl (hb hby at_238) k)))) ?_
  obtain ⟨cl48, Ar48, qr48, Sr48, Nr48, Hr48, Gr48⟩ := id V44
  obtain ⟨T48, h48, X48, e48, W48, st48⟩ := stC X44 hx hZ8 e44 Ar48 (j := (4 : Int32)) (inb_of Sr48 ⟨by decide, by decide⟩) (g := (mkF m 240 #[vI pi0, vI pi1, vI nn, vI (pi1 &&& (3 : Int32)), vR a4, vR a5, vR gg, vR o10, vU] [.int 112, .int 4, .ref b25, .ref b25])) rfl rfl (hb hby at_240)
  have V48 : Arv Z h48 b25 k25 .char (19 : Int32) [.int 103, .int 114, .int 111, .int 117, (.int (nar .char (112 : Int32))), .int 0, .int 0, .int 0, .int 0, .int 0, .int 0, .int 0, .int 0, .int 0, .int 0, .int 0, .int 0, .int 0, .int 0] (.int 0) := Arv.set Ar48 qr48 Sr48 Nr48 Hr48 Gr48 (fits_nar_char _) W48 4 rfl (lb rfl)
  replace V48 : Arv Z h48 b25 k25 .char (19 : Int32) [.int 103, .int 114, .int 111, .int 117, .int 112, .int 0, .int 0, .int 0, .int 0, .int 0, .int 0, .int 0, .int 0, .int 0, .int 0, .int 0, .int 0, .int 0, .int 0] (.int 0) := V48
  obtain ⟨_, q50, -⟩ := id V44
  have ch49 := CHr.wr W48 (Safe.arr hZ8.alike q50 nofun) CH47.1
  have CH51 := CHr.trans CH47 ch49
  have N48 := Fr.snoc X48 N44 g26
  refine og T48 (mkF m 245 #[vI pi0, vI pi1, vI nn, vI (pi1 &&& (3 : Int32)), vR a4, vR a5, vR gg, vR o10, vU] [.int 32, .int 5, .ref b25, .ref b25]) (fun _ k => st48 _ (XS.dup X48.here hx rfl (hb hby at_241) rfl rfl (XS.iconst X48.here hx rfl (hb hby at_242) (XS.bipush X48.here hx rfl (hb hby at_243) k)))) ?_
  obtain ⟨cl52, Ar52, qr52, Sr52, Nr52, Hr52, Gr52⟩ := id V48
  obtain ⟨T52, h52, X52, e52, W52, st52⟩ := stC X48 hx hZ8 e48 Ar52 (j := (5 : Int32)) (inb_of Sr52 ⟨by decide, by decide⟩) (g := (mkF m 245 #[vI pi0, vI pi1, vI nn, vI (pi1 &&& (3 : Int32)), vR a4, vR a5, vR gg, vR o10, vU] [.int 32, .int 5, .ref b25, .ref b25])) rfl rfl (hb hby at_245)
  have V52 : Arv Z h52 b25 k25 .char (19 : Int32) [.int 103, .int 114, .int 111, .int 117, .int 112, (.int (nar .char (32 : Int32))), .int 0, .int 0, .int 0, .int 0, .int 0, .int 0, .int 0, .int 0, .int 0, .int 0, .int 0, .int 0, .int 0] (.int 0) := Arv.set Ar52 qr52 Sr52 Nr52 Hr52 Gr52 (fits_nar_char _) W52 5 rfl (lb rfl)
  replace V52 : Arv Z h52 b25 k25 .char (19 : Int32) [.int 103, .int 114, .int 111, .int 117, .int 112, .int 32, .int 0, .int 0, .int 0, .int 0, .int 0, .int 0, .int 0, .int 0, .int 0, .int 0, .int 0, .int 0, .int 0] (.int 0) := V52
  obtain ⟨_, q54, -⟩ := id V48
  have ch53 := CHr.wr W52 (Safe.arr hZ8.alike q54 nofun) CH51.1
  have CH55 := CHr.trans CH51 ch53
  have N52 := Fr.snoc X52 N48 g26
  refine og T52 (mkF m 251 #[vI pi0, vI pi1, vI nn, vI (pi1 &&& (3 : Int32)), vR a4, vR a5, vR gg, vR o10, vU] [.int 111, .int 6, .ref b25, .ref b25]) (fun _ k => st52 _ (XS.dup X52.here hx rfl (hb hby at_246) rfl rfl (XS.bipush X52.here hx rfl (hb hby at_247) (XS.bipush X52.here hx rfl (hb hby at_249) k)))) ?_
  obtain ⟨cl56, Ar56, qr56, Sr56, Nr56, Hr56, Gr56⟩ := id V52
  obtain ⟨T56, h56, X56, e56, W56, st56⟩ := stC X52 hx hZ8 e52 Ar56 (j := (6 : Int32)) (inb_of Sr56 ⟨by decide, by decide⟩) (g := (mkF m 251 #[vI pi0, vI pi1, vI nn, vI (pi1 &&& (3 : Int32)), vR a4, vR a5, vR gg, vR o10, vU] [.int 111, .int 6, .ref b25, .ref b25])) rfl rfl (hb hby at_251)
  have V56 : Arv Z h56 b25 k25 .char (19 : Int32) [.int 103, .int 114, .int 111, .int 117, .int 112, .int 32, (.int (nar .char (111 : Int32))), .int 0, .int 0, .int 0, .int 0, .int 0, .int 0, .int 0, .int 0, .int 0, .int 0, .int 0, .int 0] (.int 0) := Arv.set Ar56 qr56 Sr56 Nr56 Hr56 Gr56 (fits_nar_char _) W56 6 rfl (lb rfl)
  replace V56 : Arv Z h56 b25 k25 .char (19 : Int32) [.int 103, .int 114, .int 111, .int 117, .int 112, .int 32, .int 111, .int 0, .int 0, .int 0, .int 0, .int 0, .int 0, .int 0, .int 0, .int 0, .int 0, .int 0, .int 0] (.int 0) := V56
  obtain ⟨_, q58, -⟩ := id V52
  have ch57 := CHr.wr W56 (Safe.arr hZ8.alike q58 nofun) CH55.1
  have CH59 := CHr.trans CH55 ch57
  have N56 := Fr.snoc X56 N52 g26
  refine og T56 (mkF m 257 #[vI pi0, vI pi1, vI nn, vI (pi1 &&& (3 : Int32)), vR a4, vR a5, vR gg, vR o10, vU] [.int 102, .int 7, .ref b25, .ref b25]) (fun _ k => st56 _ (XS.dup X56.here hx rfl (hb hby at_252) rfl rfl (XS.bipush X56.here hx rfl (hb hby at_253) (XS.bipush X56.here hx rfl (hb hby at_255) k)))) ?_
  obtain ⟨cl60, Ar60, qr60, Sr60, Nr60, Hr60, Gr60⟩ := id V56
  obtain ⟨T60, h60, X60, e60, W60, st60⟩ := stC X56 hx hZ8 e56 Ar60 (j := (7 : Int32)) (inb_of Sr60 ⟨by decide, by decide⟩) (g := (mkF m 257 #[vI pi0, vI pi1, vI nn, vI (pi1 &&& (3 : Int32)), vR a4, vR a5, vR gg, vR o10, vU] [.int 102, .int 7, .ref b25, .ref b25])) rfl rfl (hb hby at_257)
  have V60 : Arv Z h60 b25 k25 .char (19 : Int32) [.int 103, .int 114, .int 111, .int 117, .int 112, .int 32, .int 111, (.int (nar .char (102 : Int32))), .int 0, .int 0, .int 0, .int 0, .int 0, .int 0, .int 0, .int 0, .int 0, .int 0, .int 0] (.int 0) := Arv.set Ar60 qr60 Sr60 Nr60 Hr60 Gr60 (fits_nar_char _) W60 7 rfl (lb rfl)
  replace V60 : Arv Z h60 b25 k25 .char (19 : Int32) [.int 103, .int 114, .int 111, .int 117, .int 112, .int 32, .int 111, .int 102, .int 0, .int 0, .int 0, .int 0, .int 0, .int 0, .int 0, .int 0, .int 0, .int 0, .int 0] (.int 0) := V60
  obtain ⟨_, q62, -⟩ := id V56
  have ch61 := CHr.wr W60 (Safe.arr hZ8.alike q62 nofun) CH59.1
  have CH63 := CHr.trans CH59 ch61
  have N60 := Fr.snoc X60 N56 g26
  refine og T60 (mkF m 263 #[vI pi0, vI pi1, vI nn, vI (pi1 &&& (3 : Int32)), vR a4, vR a5, vR gg, vR o10, vU] [.int 32, .int 8, .ref b25, .ref b25]) (fun _ k => st60 _ (XS.dup X60.here hx rfl (hb hby at_258) rfl rfl (XS.bipush X60.here hx rfl (hb hby at_259) (XS.bipush X60.here hx rfl (hb hby at_261) k)))) ?_
  obtain ⟨cl64, Ar64, qr64, Sr64, Nr64, Hr64, Gr64⟩ := id V60
  obtain ⟨T64, h64, X64, e64, W64, st64⟩ := stC X60 hx hZ8 e60 Ar64 (j := (8 : Int32)) (inb_of Sr64 ⟨by decide, by decide⟩) (g := (mkF m 263 #[vI pi0, vI pi1, vI nn, vI (pi1 &&& (3 : Int32)), vR a4, vR a5, vR gg, vR o10, vU] [.int 32, .int 8, .ref b25, .ref b25])) rfl rfl (hb hby at_263)
  have V64 : Arv Z h64 b25 k25 .char (19 : Int32) [.int 103, .int 114, .int 111, .int 117, .int 112, .int 32, .int 111, .int 102, (.int (nar .char (32 : Int32))), .int 0, .int 0, .int 0, .int 0, .int 0, .int 0, .int 0, .int 0, .int 0, .int 0] (.int 0) := Arv.set Ar64 qr64 Sr64 Nr64 Hr64 Gr64 (fits_nar_char _) W64 8 rfl (lb rfl)
  replace V64 : Arv Z h64 b25 k25 .char (19 : Int32) [.int 103, .int 114, .int 111, .int 117, .int 112, .int 32, .int 111, .int 102, .int 32, .int 0, .int 0, .int 0, .int 0, .int 0, .int 0, .int 0, .int 0, .int 0, .int 0] (.int 0) := V64
  obtain ⟨_, q66, -⟩ := id V60
  have ch65 := CHr.wr W64 (Safe.arr hZ8.alike q66 nofun) CH63.1
  have CH67 := CHr.trans CH63 ch65
  have N64 := Fr.snoc X64 N60 g26
  refine og T64 (mkF m 271 #[vI pi0, vI pi1, vI nn, vI (pi1 &&& (3 : Int32)), vR a4, vR a5, vR gg, vR o10, vU] [(.int ((48 : Int32) + nn)), .int 9, .ref b25, .ref b25]) (fun _ k => st64 _ (XS.dup X64.here hx rfl (hb hby at_264) rfl rfl (XS.bipush X64.here hx rfl (hb hby at_265) (XS.bipush X64.here hx rfl (hb hby at_267) (XS.iloadN X64.here hx rfl (hb hby at_269) rfl (XS.iadd X64.here hx rfl (hb hby at_270) rfl k)))))) ?_
  refine og T64 (mkF m 272 #[vI pi0, vI pi1, vI nn, vI (pi1 &&& (3 : Int32)), vR a4, vR a5, vR gg, vR o10, vU] [(.int ((48 : Int32) + nn)), .int 9, .ref b25, .ref b25]) (fun _ k => XS.i2c X64.here hx rfl (hb hby at_271) rfl (by rw [show ((48 : Int32) + nn).toUInt32.toUInt16.toUInt32.toInt32 = ((48 : Int32) + nn) from (own_ncl (own_48 hn1 hn4))]; exact k)) ?_
  obtain ⟨cl68, Ar68, qr68, Sr68, Nr68, Hr68, Gr68⟩ := id V64
  obtain ⟨T68, h68, X68, e68, W68, st68⟩ := stC X64 hx hZ8 e64 Ar68 (j := (9 : Int32)) (inb_of Sr68 ⟨by decide, by decide⟩) (g := (mkF m 272 #[vI pi0, vI pi1, vI nn, vI (pi1 &&& (3 : Int32)), vR a4, vR a5, vR gg, vR o10, vU] [(.int ((48 : Int32) + nn)), .int 9, .ref b25, .ref b25])) rfl rfl (hb hby at_272)
  have V68 : Arv Z h68 b25 k25 .char (19 : Int32) [.int 103, .int 114, .int 111, .int 117, .int 112, .int 32, .int 111, .int 102, .int 32, (.int (nar .char ((48 : Int32) + nn))), .int 0, .int 0, .int 0, .int 0, .int 0, .int 0, .int 0, .int 0, .int 0] (.int 0) := Arv.set Ar68 qr68 Sr68 Nr68 Hr68 Gr68 (fits_nar_char _) W68 9 rfl (lb rfl)
  rw [show nar .char ((48 : Int32) + nn) = ((48 : Int32) + nn) from (own_ncl (own_48 hn1 hn4))] at V68
  obtain ⟨_, q70, -⟩ := id V64
  have ch69 := CHr.wr W68 (Safe.arr hZ8.alike q70 nofun) CH67.1
  have CH71 := CHr.trans CH67 ch69
  have N68 := Fr.snoc X68 N64 g26
  refine og T68 (mkF m 278 #[vI pi0, vI pi1, vI nn, vI (pi1 &&& (3 : Int32)), vR a4, vR a5, vR gg, vR o10, vU] [.int 32, .int 10, .ref b25, .ref b25]) (fun _ k => st68 _ (XS.dup X68.here hx rfl (hb hby at_273) rfl rfl (XS.bipush X68.here hx rfl (hb hby at_274) (XS.bipush X68.here hx rfl (hb hby at_276) k)))) ?_
  obtain ⟨cl72, Ar72, qr72, Sr72, Nr72, Hr72, Gr72⟩ := id V68
  obtain ⟨T72, h72, X72, e72, W72, st72⟩ := stC X68 hx hZ8 e68 Ar72 (j := (10 : Int32)) (inb_of Sr72 ⟨by decide, by decide⟩) (g := (mkF m 278 #[vI pi0, vI pi1, vI nn, vI (pi1 &&& (3 : Int32)), vR a4, vR a5, vR gg, vR o10, vU] [.int 32, .int 10, .ref b25, .ref b25])) rfl rfl (hb hby at_278)
  have V72 : Arv Z h72 b25 k25 .char (19 : Int32) [.int 103, .int 114, .int 111, .int 117, .int 112, .int 32, .int 111, .int 102, .int 32, (.int ((48 : Int32) + nn)), (.int (nar .char (32 : Int32))), .int 0, .int 0, .int 0, .int 0, .int 0, .int 0, .int 0, .int 0] (.int 0) := Arv.set Ar72 qr72 Sr72 Nr72 Hr72 Gr72 (fits_nar_char _) W72 10 rfl (lb rfl)
  replace V72 : Arv Z h72 b25 k25 .char (19 : Int32) [.int 103, .int 114, .int 111, .int 117, .int 112, .int 32, .int 111, .int 102, .int 32, (.int ((48 : Int32) + nn)), .int 32, .int 0, .int 0, .int 0, .int 0, .int 0, .int 0, .int 0, .int 0] (.int 0) := V72
  obtain ⟨_, q74, -⟩ := id V68
  have ch73 := CHr.wr W72 (Safe.arr hZ8.alike q74 nofun) CH71.1
  have CH75 := CHr.trans CH71 ch73
  have N72 := Fr.snoc X72 N68 g26
  refine og T72 (mkF m 284 #[vI pi0, vI pi1, vI nn, vI (pi1 &&& (3 : Int32)), vR a4, vR a5, vR gg, vR o10, vU] [.int 99, .int 11, .ref b25, .ref b25]) (fun _ k => st72 _ (XS.dup X72.here hx rfl (hb hby at_279) rfl rfl (XS.bipush X72.here hx rfl (hb hby at_280) (XS.bipush X72.here hx rfl (hb hby at_282) k)))) ?_
  obtain ⟨cl76, Ar76, qr76, Sr76, Nr76, Hr76, Gr76⟩ := id V72
  obtain ⟨T76, h76, X76, e76, W76, st76⟩ := stC X72 hx hZ8 e72 Ar76 (j := (11 : Int32)) (inb_of Sr76 ⟨by decide, by decide⟩) (g := (mkF m 284 #[vI pi0, vI pi1, vI nn, vI (pi1 &&& (3 : Int32)), vR a4, vR a5, vR gg, vR o10, vU] [.int 99, .int 11, .ref b25, .ref b25])) rfl rfl (hb hby at_284)
  have V76 : Arv Z h76 b25 k25 .char (19 : Int32) [.int 103, .int 114, .int 111, .int 117, .int 112, .int 32, .int 111, .int 102, .int 32, (.int ((48 : Int32) + nn)), .int 32, (.int (nar .char (99 : Int32))), .int 0, .int 0, .int 0, .int 0, .int 0, .int 0, .int 0] (.int 0) := Arv.set Ar76 qr76 Sr76 Nr76 Hr76 Gr76 (fits_nar_char _) W76 11 rfl (lb rfl)
  replace V76 : Arv Z h76 b25 k25 .char (19 : Int32) [.int 103, .int 114, .int 111, .int 117, .int 112, .int 32, .int 111, .int 102, .int 32, (.int ((48 : Int32) + nn)), .int 32, .int 99, .int 0, .int 0, .int 0, .int 0, .int 0, .int 0, .int 0] (.int 0) := V76
  obtain ⟨_, q78, -⟩ := id V72
  have ch77 := CHr.wr W76 (Safe.arr hZ8.alike q78 nofun) CH75.1
  have CH79 := CHr.trans CH75 ch77
  have N76 := Fr.snoc X76 N72 g26
  refine og T76 (mkF m 290 #[vI pi0, vI pi1, vI nn, vI (pi1 &&& (3 : Int32)), vR a4, vR a5, vR gg, vR o10, vU] [.int 111, .int 12, .ref b25, .ref b25]) (fun _ k => st76 _ (XS.dup X76.here hx rfl (hb hby at_285) rfl rfl (XS.bipush X76.here hx rfl (hb hby at_286) (XS.bipush X76.here hx rfl (hb hby at_288) k)))) ?_
  obtain ⟨cl80, Ar80, qr80, Sr80, Nr80, Hr80, Gr80⟩ := id V76
  obtain ⟨T80, h80, X80, e80, W80, st80⟩ := stC X76 hx hZ8 e76 Ar80 (j := (12 : Int32)) (inb_of Sr80 ⟨by decide, by decide⟩) (g := (mkF m 290 #[vI pi0, vI pi1, vI nn, vI (pi1 &&& (3 : Int32)), vR a4, vR a5, vR gg, vR o10, vU] [.int 111, .int 12, .ref b25, .ref b25])) rfl rfl (hb hby at_290)
  have V80 : Arv Z h80 b25 k25 .char (19 : Int32) [.int 103, .int 114, .int 111, .int 117, .int 112, .int 32, .int 111, .int 102, .int 32, (.int ((48 : Int32) + nn)), .int 32, .int 99, (.int (nar .char (111 : Int32))), .int 0, .int 0, .int 0, .int 0, .int 0, .int 0] (.int 0) := Arv.set Ar80 qr80 Sr80 Nr80 Hr80 Gr80 (fits_nar_char _) W80 12 rfl (lb rfl)
  replace V80 : Arv Z h80 b25 k25 .char (19 : Int32) [.int 103, .int 114, .int 111, .int 117, .int 112, .int 32, .int 111, .int 102, .int 32, (.int ((48 : Int32) + nn)), .int 32, .int 99, .int 111, .int 0, .int 0, .int 0, .int 0, .int 0, .int 0] (.int 0) := V80
  obtain ⟨_, q82, -⟩ := id V76
  have ch81 := CHr.wr W80 (Safe.arr hZ8.alike q82 nofun) CH79.1
  have CH83 := CHr.trans CH79 ch81
  have N80 := Fr.snoc X80 N76 g26
  refine og T80 (mkF m 296 #[vI pi0, vI pi1, vI nn, vI (pi1 &&& (3 : Int32)), vR a4, vR a5, vR gg, vR o10, vU] [.int 109, .int 13, .ref b25, .ref b25]) (fun _ k => st80 _ (XS.dup X80.here hx rfl (hb hby at_291) rfl rfl (XS.bipush X80.here hx rfl (hb hby at_292) (XS.bipush X80.here hx rfl (hb hby at_294) k)))) ?_
  obtain ⟨cl84, Ar84, qr84, Sr84, Nr84, Hr84, Gr84⟩ := id V80
  obtain ⟨T84, h84, X84, e84, W84, st84⟩ := stC X80 hx hZ8 e80 Ar84 (j := (13 : Int32)) (inb_of Sr84 ⟨by decide, by decide⟩) (g := (mkF m 296 #[vI pi0, vI pi1, vI nn, vI (pi1 &&& (3 : Int32)), vR a4, vR a5, vR gg, vR o10, vU] [.int 109, .int 13, .ref b25, .ref b25])) rfl rfl (hb hby at_296)
  have V84 : Arv Z h84 b25 k25 .char (19 : Int32) [.int 103, .int 114, .int 111, .int 117, .int 112, .int 32, .int 111, .int 102, .int 32, (.int ((48 : Int32) + nn)), .int 32, .int 99, .int 111, (.int (nar .char (109 : Int32))), .int 0, .int 0, .int 0, .int 0, .int 0] (.int 0) := Arv.set Ar84 qr84 Sr84 Nr84 Hr84 Gr84 (fits_nar_char _) W84 13 rfl (lb rfl)
  replace V84 : Arv Z h84 b25 k25 .char (19 : Int32) [.int 103, .int 114, .int 111, .int 117, .int 112, .int 32, .int 111, .int 102, .int 32, (.int ((48 : Int32) + nn)), .int 32, .int 99, .int 111, .int 109, .int 0, .int 0, .int 0, .int 0, .int 0] (.int 0) := V84
  obtain ⟨_, q86, -⟩ := id V80
  have ch85 := CHr.wr W84 (Safe.arr hZ8.alike q86 nofun) CH83.1
  have CH87 := CHr.trans CH83 ch85
  have N84 := Fr.snoc X84 N80 g26
  refine og T84 (mkF m 302 #[vI pi0, vI pi1, vI nn, vI (pi1 &&& (3 : Int32)), vR a4, vR a5, vR gg, vR o10, vU] [.int 109, .int 14, .ref b25, .ref b25]) (fun _ k => st84 _ (XS.dup X84.here hx rfl (hb hby at_297) rfl rfl (XS.bipush X84.here hx rfl (hb hby at_298) (XS.bipush X84.here hx rfl (hb hby at_300) k)))) ?_
  obtain ⟨cl88, Ar88, qr88, Sr88, Nr88, Hr88, Gr88⟩ := id V84
  obtain ⟨T88, h88, X88, e88, W88, st88⟩ := stC X84 hx hZ8 e84 Ar88 (j := (14 : Int32)) (inb_of Sr88 ⟨by decide, by decide⟩) (g := (mkF m 302 #[vI pi0, vI pi1, vI nn, vI (pi1 &&& (3 : Int32)), vR a4, vR a5, vR gg, vR o10, vU] [.int 109, .int 14, .ref b25, .ref b25])) rfl rfl (hb hby at_302)
  have V88 : Arv Z h88 b25 k25 .char (19 : Int32) [.int 103, .int 114, .int 111, .int 117, .int 112, .int 32, .int 111, .int 102, .int 32, (.int ((48 : Int32) + nn)), .int 32, .int 99, .int 111, .int 109, (.int (nar .char (109 : Int32))), .int 0, .int 0, .int 0, .int 0] (.int 0) := Arv.set Ar88 qr88 Sr88 Nr88 Hr88 Gr88 (fits_nar_char _) W88 14 rfl (lb rfl)
  replace V88 : Arv Z h88 b25 k25 .char (19 : Int32) [.int 103, .int 114, .int 111, .int 117, .int 112, .int 32, .int 111, .int 102, .int 32, (.int ((48 : Int32) + nn)), .int 32, .int 99, .int 111, .int 109, .int 109, .int 0, .int 0, .int 0, .int 0] (.int 0) := V88
  obtain ⟨_, q90, -⟩ := id V84
  have ch89 := CHr.wr W88 (Safe.arr hZ8.alike q90 nofun) CH87.1
  have CH91 := CHr.trans CH87 ch89
  have N88 := Fr.snoc X88 N84 g26
  refine og T88 (mkF m 308 #[vI pi0, vI pi1, vI nn, vI (pi1 &&& (3 : Int32)), vR a4, vR a5, vR gg, vR o10, vU] [.int 97, .int 15, .ref b25, .ref b25]) (fun _ k => st88 _ (XS.dup X88.here hx rfl (hb hby at_303) rfl rfl (XS.bipush X88.here hx rfl (hb hby at_304) (XS.bipush X88.here hx rfl (hb hby at_306) k)))) ?_
  obtain ⟨cl92, Ar92, qr92, Sr92, Nr92, Hr92, Gr92⟩ := id V88
  obtain ⟨T92, h92, X92, e92, W92, st92⟩ := stC X88 hx hZ8 e88 Ar92 (j := (15 : Int32)) (inb_of Sr92 ⟨by decide, by decide⟩) (g := (mkF m 308 #[vI pi0, vI pi1, vI nn, vI (pi1 &&& (3 : Int32)), vR a4, vR a5, vR gg, vR o10, vU] [.int 97, .int 15, .ref b25, .ref b25])) rfl rfl (hb hby at_308)
  have V92 : Arv Z h92 b25 k25 .char (19 : Int32) [.int 103, .int 114, .int 111, .int 117, .int 112, .int 32, .int 111, .int 102, .int 32, (.int ((48 : Int32) + nn)), .int 32, .int 99, .int 111, .int 109, .int 109, (.int (nar .char (97 : Int32))), .int 0, .int 0, .int 0] (.int 0) := Arv.set Ar92 qr92 Sr92 Nr92 Hr92 Gr92 (fits_nar_char _) W92 15 rfl (lb rfl)
  replace V92 : Arv Z h92 b25 k25 .char (19 : Int32) [.int 103, .int 114, .int 111, .int 117, .int 112, .int 32, .int 111, .int 102, .int 32, (.int ((48 : Int32) + nn)), .int 32, .int 99, .int 111, .int 109, .int 109, .int 97, .int 0, .int 0, .int 0] (.int 0) := V92
  obtain ⟨_, q94, -⟩ := id V88
  have ch93 := CHr.wr W92 (Safe.arr hZ8.alike q94 nofun) CH91.1
  have CH95 := CHr.trans CH91 ch93
  have N92 := Fr.snoc X92 N88 g26
  refine og T92 (mkF m 314 #[vI pi0, vI pi1, vI nn, vI (pi1 &&& (3 : Int32)), vR a4, vR a5, vR gg, vR o10, vU] [.int 110, .int 16, .ref b25, .ref b25]) (fun _ k => st92 _ (XS.dup X92.here hx rfl (hb hby at_309) rfl rfl (XS.bipush X92.here hx rfl (hb hby at_310) (XS.bipush X92.here hx rfl (hb hby at_312) k)))) ?_
  obtain ⟨cl96, Ar96, qr96, Sr96, Nr96, Hr96, Gr96⟩ := id V92
  obtain ⟨T96, h96, X96, e96, W96, st96⟩ := stC X92 hx hZ8 e92 Ar96 (j := (16 : Int32)) (inb_of Sr96 ⟨by decide, by decide⟩) (g := (mkF m 314 #[vI pi0, vI pi1, vI nn, vI (pi1 &&& (3 : Int32)), vR a4, vR a5, vR gg, vR o10, vU] [.int 110, .int 16, .ref b25, .ref b25])) rfl rfl (hb hby at_314)
  have V96 : Arv Z h96 b25 k25 .char (19 : Int32) [.int 103, .int 114, .int 111, .int 117, .int 112, .int 32, .int 111, .int 102, .int 32, (.int ((48 : Int32) + nn)), .int 32, .int 99, .int 111, .int 109, .int 109, .int 97, (.int (nar .char (110 : Int32))), .int 0, .int 0] (.int 0) := Arv.set Ar96 qr96 Sr96 Nr96 Hr96 Gr96 (fits_nar_char _) W96 16 rfl (lb rfl)
  replace V96 : Arv Z h96 b25 k25 .char (19 : Int32) [.int 103, .int 114, .int 111, .int 117, .int 112, .int 32, .int 111, .int 102, .int 32, (.int ((48 : Int32) + nn)), .int 32, .int 99, .int 111, .int 109, .int 109, .int 97, .int 110, .int 0, .int 0] (.int 0) := V96
  obtain ⟨_, q98, -⟩ := id V92
  have ch97 := CHr.wr W96 (Safe.arr hZ8.alike q98 nofun) CH95.1
  have CH99 := CHr.trans CH95 ch97
  have N96 := Fr.snoc X96 N92 g26
  refine og T96 (mkF m 320 #[vI pi0, vI pi1, vI nn, vI (pi1 &&& (3 : Int32)), vR a4, vR a5, vR gg, vR o10, vU] [.int 100, .int 17, .ref b25, .ref b25]) (fun _ k => st96 _ (XS.dup X96.here hx rfl (hb hby at_315) rfl rfl (XS.bipush X96.here hx rfl (hb hby at_316) (XS.bipush X96.here hx rfl (hb hby at_318) k)))) ?_
  obtain ⟨cl100, Ar100, qr100, Sr100, Nr100, Hr100, Gr100⟩ := id V96
  obtain ⟨T100, h100, X100, e100, W100, st100⟩ := stC X96 hx hZ8 e96 Ar100 (j := (17 : Int32)) (inb_of Sr100 ⟨by decide, by decide⟩) (g := (mkF m 320 #[vI pi0, vI pi1, vI nn, vI (pi1 &&& (3 : Int32)), vR a4, vR a5, vR gg, vR o10, vU] [.int 100, .int 17, .ref b25, .ref b25])) rfl rfl (hb hby at_320)
  have V100 : Arv Z h100 b25 k25 .char (19 : Int32) [.int 103, .int 114, .int 111, .int 117, .int 112, .int 32, .int 111, .int 102, .int 32, (.int ((48 : Int32) + nn)), .int 32, .int 99, .int 111, .int 109, .int 109, .int 97, .int 110, (.int (nar .char (100 : Int32))), .int 0] (.int 0) := Arv.set Ar100 qr100 Sr100 Nr100 Hr100 Gr100 (fits_nar_char _) W100 17 rfl (lb rfl)
  replace V100 : Arv Z h100 b25 k25 .char (19 : Int32) [.int 103, .int 114, .int 111, .int 117, .int 112, .int 32, .int 111, .int 102, .int 32, (.int ((48 : Int32) + nn)), .int 32, .int 99, .int 111, .int 109, .int 109, .int 97, .int 110, .int 100, .int 0] (.int 0) := V100
  obtain ⟨_, q102, -⟩ := id V96
  have ch101 := CHr.wr W100 (Safe.arr hZ8.alike q102 nofun) CH99.1
  have CH103 := CHr.trans CH99 ch101
  have N100 := Fr.snoc X100 N96 g26
  refine og T100 (mkF m 326 #[vI pi0, vI pi1, vI nn, vI (pi1 &&& (3 : Int32)), vR a4, vR a5, vR gg, vR o10, vU] [.int 115, .int 18, .ref b25, .ref b25]) (fun _ k => st100 _ (XS.dup X100.here hx rfl (hb hby at_321) rfl rfl (XS.bipush X100.here hx rfl (hb hby at_322) (XS.bipush X100.here hx rfl (hb hby at_324) k)))) ?_
  obtain ⟨cl104, Ar104, qr104, Sr104, Nr104, Hr104, Gr104⟩ := id V100
  obtain ⟨T104, h104, X104, e104, W104, st104⟩ := stC X100 hx hZ8 e100 Ar104 (j := (18 : Int32)) (inb_of Sr104 ⟨by decide, by decide⟩) (g := (mkF m 326 #[vI pi0, vI pi1, vI nn, vI (pi1 &&& (3 : Int32)), vR a4, vR a5, vR gg, vR o10, vU] [.int 115, .int 18, .ref b25, .ref b25])) rfl rfl (hb hby at_326)
  have V104 : Arv Z h104 b25 k25 .char (19 : Int32) [.int 103, .int 114, .int 111, .int 117, .int 112, .int 32, .int 111, .int 102, .int 32, (.int ((48 : Int32) + nn)), .int 32, .int 99, .int 111, .int 109, .int 109, .int 97, .int 110, .int 100, (.int (nar .char (115 : Int32)))] (.int 0) := Arv.set Ar104 qr104 Sr104 Nr104 Hr104 Gr104 (fits_nar_char _) W104 18 rfl (lb rfl)
  replace V104 : Arv Z h104 b25 k25 .char (19 : Int32) [.int 103, .int 114, .int 111, .int 117, .int 112, .int 32, .int 111, .int 102, .int 32, (.int ((48 : Int32) + nn)), .int 32, .int 99, .int 111, .int 109, .int 109, .int 97, .int 110, .int 100, .int 115] (.int 0) := V104
  obtain ⟨_, q106, -⟩ := id V100
  have ch105 := CHr.wr W104 (Safe.arr hZ8.alike q106 nofun) CH103.1
  have CH107 := CHr.trans CH103 ch105
  have N104 := Fr.snoc X104 N100 g26
  refine og T104 (mkF m 329 #[vI pi0, vI pi1, vI nn, vI (pi1 &&& (3 : Int32)), vR a4, vR a5, vR gg, vR o10, vR b25] []) (fun _ k => st104 _ (XS.astore X104.here hx rfl (hb hby at_327) rfl rfl (l' := #[vI pi0, vI pi1, vI nn, vI (pi1 &&& (3 : Int32)), vR a4, vR a5, vR gg, vR o10, vR b25]) rfl k)) ?_
  obtain ⟨T108, h108, X108, e108, E108, A108, D108, U108, st108⟩ := newO X104 hx hZ8 hown8 (ow hw 268) (ow hw 120) (ow hw 113) e104 (g := (mkF m 329 #[vI pi0, vI pi1, vI nn, vI (pi1 &&& (3 : Int32)), vR a4, vR a5, vR gg, vR o10, vR b25] [])) rfl (hb hby at_329) (lb rfl) (lb rfl)
  obtain ⟨b108, gb108⟩ : ∃ z, z = h104.size := ⟨_, rfl⟩
  rw [← gb108] at A108 D108 U108 st108
  have F110 := ((((F27.ext E25).wr W32 g26).wr W36 g26).wr W40 g26)
  have F111 := ((((F110.wr W44 g26).wr W48 g26).wr W52 g26).wr W56 g26)
  have F112 := ((((F111.wr W60 g26).wr W64 g26).wr W68 g26).wr W72 g26)
  have F113 := ((((F112.wr W76 g26).wr W80 g26).wr W84 g26).wr W88 g26)
  have F114 := ((((F113.wr W92 g26).wr W96 g26).wr W100 g26).wr W104 g26)
  have g109 : n0 ≤ b108 := Nat.le_trans (own_osz F114) (Nat.le_of_eq gb108.symm)
  have F116 := (Nat.le_trans (Nat.le_trans (Nat.le_trans (Nat.le_trans F29 E25.1) (Nat.le_of_eq W32.size.symm)) (Nat.le_of_eq W36.size.symm)) (Nat.le_of_eq W40.size.symm))
  have F117 := (Nat.le_trans (Nat.le_trans (Nat.le_trans (Nat.le_trans F116 (Nat.le_of_eq W44.size.symm)) (Nat.le_of_eq W48.size.symm)) (Nat.le_of_eq W52.size.symm)) (Nat.le_of_eq W56.size.symm))
  have F118 := (Nat.le_trans (Nat.le_trans (Nat.le_trans (Nat.le_trans F117 (Nat.le_of_eq W60.size.symm)) (Nat.le_of_eq W64.size.symm)) (Nat.le_of_eq W68.size.symm)) (Nat.le_of_eq W72.size.symm))
  have F119 := (Nat.le_trans (Nat.le_trans (Nat.le_trans (Nat.le_trans F118 (Nat.le_of_eq W76.size.symm)) (Nat.le_of_eq W80.size.symm)) (Nat.le_of_eq W84.size.symm)) (Nat.le_of_eq W88.size.symm))
  have F120 := (Nat.le_trans (Nat.le_trans (Nat.le_trans (Nat.le_trans F119 (Nat.le_of_eq W92.size.symm)) (Nat.le_of_eq W96.size.symm)) (Nat.le_of_eq W100.size.symm)) (Nat.le_of_eq W104.size.symm))
  have z115 : h0.size ≤ b108 := Nat.le_trans F120 (Nat.le_of_eq gb108.symm)
  have ch121 := CHr.ext E108 CH107.1
  have CH122 := CHr.trans CH107 ch121
  have sf123 := own_safe_new CH107.1 E108 (Nat.le_of_eq gb108.symm)
  refine og T108 (mkF m 335 #[vI pi0, vI pi1, vI nn, vI (pi1 &&& (3 : Int32)), vR a4, vR a5, vR gg, vR o10, vR b25] [.ref b25, .ref b108, .ref b108]) (fun _ k => st108 _ (XS.dup X108.here hx rfl (hb hby at_332) rfl rfl (XS.aload X108.here hx rfl (hb hby at_333) rfl rfl k))) ?_
  have F124 := (V104.ext E108)
  have hp125 : ∀ c ∈ ([103, 114, 111, 117, 112, 32, 111, 102, 32, (48 + nn), 32, 99, 111, 109, 109, 97, 110, 100, 115] : List Int32), ¬ c < 0 ∧ ¬ (255 : Int32) < c := by
   intro c hc
   simp only [List.mem_cons, List.not_mem_nil, or_false] at hc
   rcases hc with rfl | rfl | rfl | rfl | rfl | rfl | rfl | rfl | rfl | rfl | rfl | rfl | rfl | rfl | rfl | rfl | rfl | rfl | rfl
   ·
    exact ⟨by decide, by decide⟩
   ·
    exact ⟨by decide, by decide⟩
   ·
    exact ⟨by decide, by decide⟩
   ·
    exact ⟨by decide, by decide⟩
   ·
    exact ⟨by decide, by decide⟩
   ·
    exact ⟨by decide, by decide⟩
   ·
    exact ⟨by decide, by decide⟩
   ·
    exact ⟨by decide, by decide⟩
   ·
    exact ⟨by decide, by decide⟩
   ·
    exact (own_48 hn1 hn4)
   ·
    exact ⟨by decide, by decide⟩
   ·
    exact ⟨by decide, by decide⟩
   ·
    exact ⟨by decide, by decide⟩
   ·
    exact ⟨by decide, by decide⟩
   ·
    exact ⟨by decide, by decide⟩
   ·
    exact ⟨by decide, by decide⟩
   ·
    exact ⟨by decide, by decide⟩
   ·
    exact ⟨by decide, by decide⟩
   ·
    exact ⟨by decide, by decide⟩
  have F126 := (F114.ext E108)
  obtain ⟨_, _, ⟨T127, L127, k127, n127⟩, -, X127, ⟨Lc127, hQ127, l127, y127, z127⟩, st127⟩ := X108.specialBack hx (y := y31) rfl hown8 (mvT hZ8 (ow hw 269)) (mvT hZ8 (ow hw 270)) (mvT hZ8 (ow hw 271)) (by decide) (StrChars.Road.backV (W := 1) hZ8 (own_hws hw) (kI := 4) (ow hw 120) (cs := ([103, 114, 111, 117, 112, 32, 111, 102, 32, (48 + nn), 32, 99, 111, 109, 109, 97, 110, 100, 115] : List Int32)) (bs := (([103, 114, 111, 117, 112, 32, 111, 102, 32, (48 + nn), 32, 99, 111, 109, 109, 97, 110, 100, 115] : List Int32).map (fun c => c.toInt8.toInt32))) (n := 19) g109 (own_osz F126) A108 (D108 (Or.inr (ow hw 121)) (ty := (.array .byte)) (by decide)) (D108 (Or.inr (ow hw 122)) (ty := .byte) (by decide)) F124 (O2.ext F126.2) P5 rfl rfl (by decide) (by decide) hp125 rfl (lb rfl) (lb rfl)) (g := (mkF m 335 #[vI pi0, vI pi1, vI nn, vI (pi1 &&& (3 : Int32)), vR a4, vR a5, vR gg, vR o10, vR b25] [.ref b25, .ref b108, .ref b108])) rfl (zs hml) (Steps.refl _) (a := b108) (argsL := [.ref b25]) (rest := [.ref b108]) (lenOf pd_23 rfl) rfl (lb rfl) (hb hby at_335) (fun _ _ => ⟨rfl, e108, (lb rfl), (lb rfl)⟩)
  dsimp only [Pt.U, Pt.locs, Pt.cells, Pt.slots] at X127 l127 y127 z127 st127 hQ127
  subst l127 y127 z127
  obtain ⟨rfl, Nq127, K127, Ex127, Fc127, t127, kb127, -, lo127, -, Fv127, Av127⟩ := hQ127
  have N127 := Fr.app N104 Nq127
  have g128 : n0 ≤ t127 := Nat.le_trans (own_osz F126) lo127
  have F130 := (Nat.le_trans F120 E108.1)
  have z129 : h0.size ≤ t127 := Nat.le_trans F130 lo127
  have ch131 := CHr.keep K127 (allS sf123 all0) CH122.1
  have CH132 := CHr.trans CH122 ch131
  have Ay127 : Arv Z T127.heap t127 kb127 .byte (19 : Int32) (own_by ([103, 114, 111, 117, 112, 32, 111, 102, 32, (48 + nn), 32, 99, 111, 109, 109, 97, 110, 100, 115] : List Int32)) (.int 0) := Av127
  refine og T127 (mkF m 340 #[vI pi0, vI pi1, vI nn, vI (pi1 &&& (3 : Int32)), vR a4, vR a5, vR gg, vR o10, vR b25] [.ref o10, .ref b108]) (fun _ k => st127.trans (XS.aload X127.here hx rfl (hb hby at_338) rfl rfl k)) ?_
  have F133 := ((((f15.ext E25).wr W32).wr W36).wr W40)
  have F134 := ((((F133.wr W44).wr W48).wr W52).wr W56)
  have F135 := ((((F134.wr W60).wr W64).wr W68).wr W72)
  have F136 := ((((F135.wr W76).wr W80).wr W84).wr W88)
  have F137 := ((((F136.wr W92).wr W96).wr W100).wr W104)
  have F138 := ((F137.ext E108).keep K127)
  have F139 := ((((f17.ext E25).other W32 (Or.inl (own_ne_lo f15.lt (Nat.le_of_eq gb25.symm)))).other W36 (Or.inl (own_ne_lo f15.lt (Nat.le_of_eq gb25.symm)))).other W40 (Or.inl (own_ne_lo f15.lt (Nat.le_of_eq gb25.symm))))
  have F140 := ((((F139.other W44 (Or.inl (own_ne_lo f15.lt (Nat.le_of_eq gb25.symm)))).other W48 (Or.inl (own_ne_lo f15.lt (Nat.le_of_eq gb25.symm)))).other W52 (Or.inl (own_ne_lo f15.lt (Nat.le_of_eq gb25.symm)))).other W56 (Or.inl (own_ne_lo f15.lt (Nat.le_of_eq gb25.symm))))
  have F141 := ((((F140.other W60 (Or.inl (own_ne_lo f15.lt (Nat.le_of_eq gb25.symm)))).other W64 (Or.inl (own_ne_lo f15.lt (Nat.le_of_eq gb25.symm)))).other W68 (Or.inl (own_ne_lo f15.lt (Nat.le_of_eq gb25.symm)))).other W72 (Or.inl (own_ne_lo f15.lt (Nat.le_of_eq gb25.symm))))
  have F142 := ((((F141.other W76 (Or.inl (own_ne_lo f15.lt (Nat.le_of_eq gb25.symm)))).other W80 (Or.inl (own_ne_lo f15.lt (Nat.le_of_eq gb25.symm)))).other W84 (Or.inl (own_ne_lo f15.lt (Nat.le_of_eq gb25.symm)))).other W88 (Or.inl (own_ne_lo f15.lt (Nat.le_of_eq gb25.symm))))
  have F143 := ((((F142.other W92 (Or.inl (own_ne_lo f15.lt (Nat.le_of_eq gb25.symm)))).other W96 (Or.inl (own_ne_lo f15.lt (Nat.le_of_eq gb25.symm)))).other W100 (Or.inl (own_ne_lo f15.lt (Nat.le_of_eq gb25.symm)))).other W104 (Or.inl (own_ne_lo f15.lt (Nat.le_of_eq gb25.symm))))
  have ne144 : o10 ≠ b108 := (own_ne_lo (Nat.lt_of_lt_of_le (Nat.lt_of_lt_of_le (Nat.lt_of_lt_of_le (Nat.lt_of_lt_of_le (Nat.lt_of_lt_of_le (Nat.lt_of_lt_of_le (Nat.lt_of_lt_of_le (Nat.lt_of_lt_of_le (Nat.lt_of_lt_of_le (Nat.lt_of_lt_of_le (Nat.lt_of_lt_of_le (Nat.lt_of_lt_of_le (Nat.lt_of_lt_of_le (Nat.lt_of_lt_of_le (Nat.lt_of_lt_of_le (Nat.lt_of_lt_of_le (Nat.lt_of_lt_of_le (Nat.lt_of_lt_of_le (Nat.lt_of_lt_of_le (Nat.lt_of_lt_of_le f15.lt E25.1) (Nat.le_of_eq W32.size.symm)) (Nat.le_of_eq W36.size.symm)) (Nat.le_of_eq W40.size.symm)) (Nat.le_of_eq W44.size.symm)) (Nat.le_of_eq W48.size.symm)) (Nat.le_of_eq W52.size.symm)) (Nat.le_of_eq W56.size.symm)) (Nat.le_of_eq W60.size.symm)) (Nat.le_of_eq W64.size.symm)) (Nat.le_of_eq W68.size.symm)) (Nat.le_of_eq W72.size.symm)) (Nat.le_of_eq W76.size.symm)) (Nat.le_of_eq W80.size.symm)) (Nat.le_of_eq W84.size.symm)) (Nat.le_of_eq W88.size.symm)) (Nat.le_of_eq W92.size.symm)) (Nat.le_of_eq W96.size.symm)) (Nat.le_of_eq W100.size.symm)) (Nat.le_of_eq W104.size.symm)) (Nat.le_of_eq gb108.symm))
  have F145 := ((F143.ext E108).keep K127 (ninS ne144 nin0))
  have F146 := ((((f16.ext E25).other W32 (Or.inl (own_ne_lo f15.lt (Nat.le_of_eq gb25.symm)))).other W36 (Or.inl (own_ne_lo f15.lt (Nat.le_of_eq gb25.symm)))).other W40 (Or.inl (own_ne_lo f15.lt (Nat.le_of_eq gb25.symm))))
  have F147 := ((((F146.other W44 (Or.inl (own_ne_lo f15.lt (Nat.le_of_eq gb25.symm)))).other W48 (Or.inl (own_ne_lo f15.lt (Nat.le_of_eq gb25.symm)))).other W52 (Or.inl (own_ne_lo f15.lt (Nat.le_of_eq gb25.symm)))).other W56 (Or.inl (own_ne_lo f15.lt (Nat.le_of_eq gb25.symm))))
  have F148 := ((((F147.other W60 (Or.inl (own_ne_lo f15.lt (Nat.le_of_eq gb25.symm)))).other W64 (Or.inl (own_ne_lo f15.lt (Nat.le_of_eq gb25.symm)))).other W68 (Or.inl (own_ne_lo f15.lt (Nat.le_of_eq gb25.symm)))).other W72 (Or.inl (own_ne_lo f15.lt (Nat.le_of_eq gb25.symm))))
  have F149 := ((((F148.other W76 (Or.inl (own_ne_lo f15.lt (Nat.le_of_eq gb25.symm)))).other W80 (Or.inl (own_ne_lo f15.lt (Nat.le_of_eq gb25.symm)))).other W84 (Or.inl (own_ne_lo f15.lt (Nat.le_of_eq gb25.symm)))).other W88 (Or.inl (own_ne_lo f15.lt (Nat.le_of_eq gb25.symm))))
  have F150 := ((((F149.other W92 (Or.inl (own_ne_lo f15.lt (Nat.le_of_eq gb25.symm)))).other W96 (Or.inl (own_ne_lo f15.lt (Nat.le_of_eq gb25.symm)))).other W100 (Or.inl (own_ne_lo f15.lt (Nat.le_of_eq gb25.symm)))).other W104 (Or.inl (own_ne_lo f15.lt (Nat.le_of_eq gb25.symm))))
  have F151 := ((F150.ext E108).keep K127 (ninS ne144 nin0))
  have F152 := ((((f18.ext E25).other W32 (own_ne_lo f18.lt (Nat.le_of_eq gb25.symm))).other W36 (own_ne_lo f18.lt (Nat.le_of_eq gb25.symm))).other W40 (own_ne_lo f18.lt (Nat.le_of_eq gb25.symm)))
  have F153 := ((((F152.other W44 (own_ne_lo f18.lt (Nat.le_of_eq gb25.symm))).other W48 (own_ne_lo f18.lt (Nat.le_of_eq gb25.symm))).other W52 (own_ne_lo f18.lt (Nat.le_of_eq gb25.symm))).other W56 (own_ne_lo f18.lt (Nat.le_of_eq gb25.symm)))
  have F154 := ((((F153.other W60 (own_ne_lo f18.lt (Nat.le_of_eq gb25.symm))).other W64 (own_ne_lo f18.lt (Nat.le_of_eq gb25.symm))).other W68 (own_ne_lo f18.lt (Nat.le_of_eq gb25.symm))).other W72 (own_ne_lo f18.lt (Nat.le_of_eq gb25.symm)))
  have F155 := ((((F154.other W76 (own_ne_lo f18.lt (Nat.le_of_eq gb25.symm))).other W80 (own_ne_lo f18.lt (Nat.le_of_eq gb25.symm))).other W84 (own_ne_lo f18.lt (Nat.le_of_eq gb25.symm))).other W88 (own_ne_lo f18.lt (Nat.le_of_eq gb25.symm)))
  have F156 := ((((F155.other W92 (own_ne_lo f18.lt (Nat.le_of_eq gb25.symm))).other W96 (own_ne_lo f18.lt (Nat.le_of_eq gb25.symm))).other W100 (own_ne_lo f18.lt (Nat.le_of_eq gb25.symm))).other W104 (own_ne_lo f18.lt (Nat.le_of_eq gb25.symm)))
  have ne157 : o11 ≠ b108 := (own_ne_lo (Nat.lt_of_lt_of_le (Nat.lt_of_lt_of_le (Nat.lt_of_lt_of_le (Nat.lt_of_lt_of_le (Nat.lt_of_lt_of_le (Nat.lt_of_lt_of_le (Nat.lt_of_lt_of_le (Nat.lt_of_lt_of_le (Nat.lt_of_lt_of_le (Nat.lt_of_lt_of_le (Nat.lt_of_lt_of_le (Nat.lt_of_lt_of_le (Nat.lt_of_lt_of_le (Nat.lt_of_lt_of_le (Nat.lt_of_lt_of_le (Nat.lt_of_lt_of_le (Nat.lt_of_lt_of_le (Nat.lt_of_lt_of_le (Nat.lt_of_lt_of_le (Nat.lt_of_lt_of_le f18.lt E25.1) (Nat.le_of_eq W32.size.symm)) (Nat.le_of_eq W36.size.symm)) (Nat.le_of_eq W40.size.symm)) (Nat.le_of_eq W44.size.symm)) (Nat.le_of_eq W48.size.symm)) (Nat.le_of_eq W52.size.symm)) (Nat.le_of_eq W56.size.symm)) (Nat.le_of_eq W60.size.symm)) (Nat.le_of_eq W64.size.symm)) (Nat.le_of_eq W68.size.symm)) (Nat.le_of_eq W72.size.symm)) (Nat.le_of_eq W76.size.symm)) (Nat.le_of_eq W80.size.symm)) (Nat.le_of_eq W84.size.symm)) (Nat.le_of_eq W88.size.symm)) (Nat.le_of_eq W92.size.symm)) (Nat.le_of_eq W96.size.symm)) (Nat.le_of_eq W100.size.symm)) (Nat.le_of_eq W104.size.symm)) (Nat.le_of_eq gb108.symm))
  have F158 := ((F156.ext E108).keep K127 (ninS ne157 nin0))
  have hp159 : own_L cL0 := own_hpl _ rfl
  have hp160 : ∀ c ∈ ([(48 + nn)] : List Int32), ¬ c < 0 ∧ ¬ (255 : Int32) < c := by
   intro c hc
   simp only [List.mem_cons, List.not_mem_nil, or_false] at hc
   rcases hc with rfl
   ·
    exact (own_48 hn1 hn4)
  have hp161 : own_L cL1 := own_hpl _ rfl
  have F162 := (F126.keep K127 (allS g109 all0))
  obtain ⟨cq163, kq163, q163a, q163b, q163c⟩ := isOf hZ8 rfl Ex127
  obtain ⟨_, _, ⟨T163, L163, k163, n163⟩, -, X163, ⟨Lc163, hQ163, l163, y163, z163⟩, st163⟩ := X127.virtualBack hx (y := y32) (z := y32) hown8 (mvT hZ8 (ow hw 285)) (mvT hZ8 (ow hw 286)) (notFace_of_selects (args := #[]) (mvT hZ8 (ow hw 288))) (mvT hZ8 (ow hw 288)) (mvT hZ8 (ow hw 287)) (by decide) (StrChars.Road.eqW (W := 0) hZ8 (own_heq hw) (kI := 4) (ow hw 120) (cs := ([103, 114, 111, 117, 112, 32, 111, 102, 32, (48 + nn), 32, 99, 111, 109, 109, 97, 110, 100, 115] : List Int32)) Ex127 Fv127 Fc127 Ay127 (StrChars.Road.codOf rfl (fun c hc => (hp125 c hc).2)) (own_up _ hp125) (lb rfl) (ds := ((cL0 ++ ([(48 + nn)] : List Int32)) ++ cL1)) F138 F145 F151 F158 (StrChars.Road.codOf (own_la (own_la rfl rfl) rfl) (fun c hc => ((own_happ (own_happ hp159 hp160) hp161) c hc).2)) (own_up _ (own_happ (own_happ hp159 hp160) hp161)) (lb rfl) (O2.ext F162.2) P5 (lb rfl) (lb rfl)) q163a q163c (g := (mkF m 340 #[vI pi0, vI pi1, vI nn, vI (pi1 &&& (3 : Int32)), vR a4, vR a5, vR gg, vR o10, vR b25] [.ref o10, .ref b108])) rfl (zs hml) (Steps.refl _) (argsL := [.ref o10]) (rest := []) (lenOf pd_24 rfl) rfl (lb rfl) (hb hby at_340) (fun _ _ => ⟨rfl, rfl, (lb rfl), (lb rfl)⟩)
  dsimp only [Pt.U, Pt.locs, Pt.cells, Pt.slots] at X163 l163 y163 z163 st163 hQ163
  subst l163 y163 z163
  obtain ⟨hv163, rfl, eq163⟩ := hQ163
  have N163 := Fr.app N127 (Fr.nil n0)
  rcases hv163 with ⟨rfl, hE163⟩ | ⟨rfl, hE163⟩
  rotate_left
  ·
   exact absurd (rfl : ([103, 114, 111, 117, 112, 32, 111, 102, 32, (48 + nn), 32, 99, 111, 109, 109, 97, 110, 100, 115] : List Int32) = ((cL0 ++ ([(48 + nn)] : List Int32)) ++ cL1)) hE163
  refine ot T163 (mkF m 343 #[vI pi0, vI pi1, vI nn, vI (pi1 &&& (3 : Int32)), vR a4, vR a5, vR gg, vR o10, vR b25] [.int 1]) st163 ?_
  have F164 := (Nat.le_trans (Nat.le_trans (Nat.le_trans (Nat.le_trans (Nat.le_refl _) E25.1) (Nat.le_of_eq W32.size.symm)) (Nat.le_of_eq W36.size.symm)) (Nat.le_of_eq W40.size.symm))
  have F165 := (Nat.le_trans (Nat.le_trans (Nat.le_trans (Nat.le_trans F164 (Nat.le_of_eq W44.size.symm)) (Nat.le_of_eq W48.size.symm)) (Nat.le_of_eq W52.size.symm)) (Nat.le_of_eq W56.size.symm))
  have F166 := (Nat.le_trans (Nat.le_trans (Nat.le_trans (Nat.le_trans F165 (Nat.le_of_eq W60.size.symm)) (Nat.le_of_eq W64.size.symm)) (Nat.le_of_eq W68.size.symm)) (Nat.le_of_eq W72.size.symm))
  have F167 := (Nat.le_trans (Nat.le_trans (Nat.le_trans (Nat.le_trans F166 (Nat.le_of_eq W76.size.symm)) (Nat.le_of_eq W80.size.symm)) (Nat.le_of_eq W84.size.symm)) (Nat.le_of_eq W88.size.symm))
  have F168 := (Nat.le_trans (Nat.le_trans (Nat.le_trans (Nat.le_trans F167 (Nat.le_of_eq W92.size.symm)) (Nat.le_of_eq W96.size.symm)) (Nat.le_of_eq W100.size.symm)) (Nat.le_of_eq W104.size.symm))
  have F169 := (Nat.le_trans (Nat.le_trans F168 E108.1) K127.1)
  exact own_leaveW (s := s) (vm0 := T8.vm) X163 hS8 F169 hZ8 (own_EW hw) eq163 CH132 hh hlk (v := some (.int (nar .boolean (1 : Int32)))) (own_nr hret) (lb rfl) (lb rfl) (by rw [eq163]; exact ⟨rfl, N163⟩) (fun fs hr => retN X163 hx (t := .boolean) hret (by simp) (hb hby at_343) hr)
 obtain ⟨T170, h170, X170, e170, E170, A170, D170, U170, st170⟩ := newO X0 hx hZ hown (ow hw 1) (ow hw 2) (ow hw 3) e0 (g := (mkF m 12 #[vI pi0, vI pi1, vI nm, vI (pi1 &&& (3 : Int32)), vU, vU, vU, vU, vU] [])) rfl (hb hby at_12) (lb rfl) (lb rfl)
 obtain ⟨b170, gb170⟩ : ∃ z, z = h0.size := ⟨_, rfl⟩
 rw [← gb170] at A170 D170 U170 st170
 have g171 : n0 ≤ b170 := Nat.le_trans (own_osz OLD) (Nat.le_of_eq gb170.symm)
 have z172 : h0.size ≤ b170 := Nat.le_trans (Nat.le_refl _) (Nat.le_of_eq gb170.symm)
 have ch173 := CHr.ext E170 CH0.1
 have CH174 := CHr.trans CH0 ch173
 refine og T170 (mkF m 16 #[vI pi0, vI pi1, vI nm, vI (pi1 &&& (3 : Int32)), vU, vU, vU, vU, vU] [.ref b170, .ref b170]) (fun _ k => st170 _ (XS.dup X170.here hx rfl (hb hby at_15) rfl rfl k)) ?_
 obtain ⟨T175, h175, X175, e175, E175, A175, D175, U175, st175⟩ := newO X170 hx hZ hown (ow hw 4) (ow hw 5) (ow hw 6) e170 (g := (mkF m 16 #[vI pi0, vI pi1, vI nm, vI (pi1 &&& (3 : Int32)), vU, vU, vU, vU, vU] [.ref b170, .ref b170])) rfl (hb hby at_16) (lb rfl) (lb rfl)
 obtain ⟨b175, gb175⟩ : ∃ z, z = h170.size := ⟨_, rfl⟩
 rw [← gb175] at A175 D175 U175 st175
 have F177 := (OLD.ext E170)
 have g176 : n0 ≤ b175 := Nat.le_trans (own_osz F177) (Nat.le_of_eq gb175.symm)
 have F179 := (Nat.le_trans (Nat.le_refl _) E170.1)
 have z178 : h0.size ≤ b175 := Nat.le_trans F179 (Nat.le_of_eq gb175.symm)
 have ch180 := CHr.ext E175 CH174.1
 have CH181 := CHr.trans CH174 ch180
 have Uu175 : Unt h175 b175 := U175
 refine og T175 (mkF m 20 #[vI pi0, vI pi1, vI nm, vI (pi1 &&& (3 : Int32)), vU, vU, vU, vU, vU] [.ref b175, .ref b175, .ref b170, .ref b170]) (fun _ k => st175 _ (XS.dup X175.here hx rfl (hb hby at_19) rfl rfl k)) ?_
 have F182 := (F177.ext E175)
 obtain ⟨_, T183, L183, X183, hQ183, st183⟩ := own_sc X175 hx hZ rfl hown (ow hw 7) (ow hw 8) (rm1_43 l Z a0 hw b175 da kda h175 n0 F182 Uu175 A175 (D175 (Or.inl (ow hw 29)) (ty := (.array (.object cN1))) (by decide)) (D175 (Or.inl (ow hw 26)) (ty := .int) (by decide)) (D175 (Or.inl (ow hw 58)) (ty := .int) (by decide)) g176 SD0 VD0) (ow hw 9) (ow hw 6) e175 (g := (mkF m 20 #[vI pi0, vI pi1, vI nm, vI (pi1 &&& (3 : Int32)), vU, vU, vU, vU, vU] [.ref b175, .ref b175, .ref b170, .ref b170])) rfl (zs hml) (argsL := []) (rest := [.ref b175, .ref b170, .ref b170]) (lenOf pd_1 rfl) rfl (hb hby at_20) (W := 3) rfl
 obtain ⟨rfl, Nq183, K183, f184, f185, f186, f187⟩ := hQ183
 have N183 := Fr.app N0 Nq183
 have ch188 := CHr.keep K183 (allS (Safe.exa hZ.alike A175 (by decide) (by decide)) all0) CH181.1
 have CH189 := CHr.trans CH181 ch188
 refine ot T183 (mkF m 23 #[vI pi0, vI pi1, vI nm, vI (pi1 &&& (3 : Int32)), vU, vU, vU, vU, vU] [.ref b175, .ref b170, .ref b170]) st183 ?_
 have F190 := ((A170.ext E175).keep K183)
 have F191 := (((D170 (Or.inr (ow hw 64)) (ty := (.object "java/util/List")) (by decide)).ext E175).keep K183 (ninS (own_ne_lo A170.lt (Nat.le_of_eq gb175.symm)) nin0))
 have F192 := (A175.keep K183)
 have F193 := (F182.keep K183 (allS g176 all0))
 obtain ⟨_, T194, L194, X194, hQ194, st194⟩ := own_sc X183 hx hZ rfl hown (ow hw 30) (ow hw 31) (rm5_46 l Z a0 hw b170 b175 da kda el ee kee T183.heap n0 F193 VD0 F190 F191 f184 F192 f185 f186 f187 SE0 EE0 FE0 VE0 g171) (ow hw 32) (ow hw 3) rfl (g := (mkF m 23 #[vI pi0, vI pi1, vI nm, vI (pi1 &&& (3 : Int32)), vU, vU, vU, vU, vU] [.ref b175, .ref b170, .ref b170])) rfl (zs hml) (argsL := [.ref b175]) (rest := [.ref b170]) (lenOf pd_27 rfl) rfl (hb hby at_23) (W := 1) rfl
 obtain ⟨hc195, rfl, Nq194, K194, f196⟩ := hQ194
 have N194 := Fr.app N183 Nq194
 have ch197 := CHr.keep K194 (allS (Safe.exa hZ.alike F190 (by decide) (by decide)) all0) CH189.1
 have CH198 := CHr.trans CH189 ch197
 refine og T194 (mkF m 28 #[vI pi0, vI pi1, vI nm, vI (pi1 &&& (3 : Int32)), vR b170, vU, vU, vU, vU] []) (fun _ k => st194.trans (XS.astore X194.here hx rfl (hb hby at_26) rfl rfl (l' := #[vI pi0, vI pi1, vI nm, vI (pi1 &&& (3 : Int32)), vR b170, vU, vU, vU, vU]) rfl k)) ?_
 obtain ⟨T199, h199, X199, e199, E199, A199, D199, U199, st199⟩ := newO X194 hx hZ hown (ow hw 4) (ow hw 5) (ow hw 6) rfl (g := (mkF m 28 #[vI pi0, vI pi1, vI nm, vI (pi1 &&& (3 : Int32)), vR b170, vU, vU, vU, vU] [])) rfl (hb hby at_28) (lb rfl) (lb rfl)
 obtain ⟨b199, gb199⟩ : ∃ z, z = T194.heap.size := ⟨_, rfl⟩
 rw [← gb199] at A199 D199 U199 st199
 have F201 := (F193.keep K194 (allS g171 all0))
 have g200 : n0 ≤ b199 := Nat.le_trans (own_osz F201) (Nat.le_of_eq gb199.symm)
 have F203 := (Nat.le_trans (Nat.le_trans (Nat.le_trans F179 E175.1) K183.1) K194.1)
 have z202 : h0.size ≤ b199 := Nat.le_trans F203 (Nat.le_of_eq gb199.symm)
 have ch204 := CHr.ext E199 CH198.1
 have CH205 := CHr.trans CH198 ch204
 have Uu199 : Unt h199 b199 := U199
 refine og T199 (mkF m 32 #[vI pi0, vI pi1, vI nm, vI (pi1 &&& (3 : Int32)), vR b170, vU, vU, vU, vU] [.ref b199, .ref b199]) (fun _ k => st199 _ (XS.dup X199.here hx rfl (hb hby at_31) rfl rfl k)) ?_
 have F206 := (F201.ext E199)
 obtain ⟨_, T207, L207, X207, hQ207, st207⟩ := own_sc X199 hx hZ rfl hown (ow hw 7) (ow hw 8) (rm1_43 l Z a0 hw b199 da kda h199 n0 F206 Uu199 A199 (D199 (Or.inl (ow hw 29)) (ty := (.array (.object cN1))) (by decide)) (D199 (Or.inl (ow hw 26)) (ty := .int) (by decide)) (D199 (Or.inl (ow hw 58)) (ty := .int) (by decide)) g200 SD0 VD0) (ow hw 9) (ow hw 6) e199 (g := (mkF m 32 #[vI pi0, vI pi1, vI nm, vI (pi1 &&& (3 : Int32)), vR b170, vU, vU, vU, vU] [.ref b199, .ref b199])) rfl (zs hml) (argsL := []) (rest := [.ref b199]) (lenOf pd_1 rfl) rfl (hb hby at_32) (W := 1) rfl
 obtain ⟨rfl, Nq207, K207, f208, f209, f210, f211⟩ := hQ207
 have N207 := Fr.app N194 Nq207
 have ch212 := CHr.keep K207 (allS (Safe.exa hZ.alike A199 (by decide) (by decide)) all0) CH205.1
 have CH213 := CHr.trans CH205 ch212
 refine og T207 (mkF m 37 #[vI pi0, vI pi1, vI nm, vI (pi1 &&& (3 : Int32)), vR b170, vR b199, vU, vU, vU] []) (fun _ k => st207.trans (XS.astore X207.here hx rfl (hb hby at_35) rfl rfl (l' := #[vI pi0, vI pi1, vI nm, vI (pi1 &&& (3 : Int32)), vR b170, vR b199, vU, vU, vU]) rfl k)) ?_
 have K215 := (((((Keep.refl h0 []).ext E170).ext E175).trans K183 (allS (Or.inr z178) all0)).trans K194 (allS (Or.inr z172) all0))
 have KP214 := ((K215.ext E199).trans K207 (allS (Or.inr z202) all0))
 refine og T207 (mkF m 38 #[vI pi0, vI pi1, vI nm, vI (pi1 &&& (3 : Int32)), vR b170, vR b199, vU, vU, vU] [.int nm]) (fun _ k => XS.iloadN X207.here hx rfl (hb hby at_37) rfl k) ?_
 by_cases hc216 : (0 : Int32) < nm
 ·
  refine og T207 (mkF m 45 #[vI pi0, vI pi1, vI nm, vI (pi1 &&& (3 : Int32)), vR b170, vR b199, vU, vU, vU] [.ref b170, .ref b199]) (fun _ k => XS.ifNo X207.here hx rfl (hb hby at_38) rfl ((if0 _ _).trans (tlt hc216).2.2.2) (XS.aload X207.here hx rfl (hb hby at_41) rfl rfl (XS.aload X207.here hx rfl (hb hby at_43) rfl rfl k))) ?_
  have F217 := (A199.keep K207)
  have F218 := (((F190.keep K194).ext E199).keep K207)
  have ne219 : b170 ≠ b199 := (own_ne_lo (Nat.lt_of_lt_of_le (Nat.lt_of_lt_of_le (Nat.lt_of_lt_of_le A170.lt E175.1) K183.1) K194.1) (Nat.le_of_eq gb199.symm))
  have F220 := ((f196.ext E199).keep K207 (ninS ne219 nin0))
  have F221 := (F206.keep K207 (allS g200 all0))
  obtain ⟨_, T222, L222, X222, hQ222, st222⟩ := own_vc X207 hx hZ hown (ow hw 65) (ow hw 66) (ow hw 68) (ow hw 67) F217 (rm10_51 l Z a0 hw b199 b170 da kda el ee kee T207.heap n0 F221 VD0 EE0 FE0 VE0 f208 F217 f209 f210 f211 F218 F220 g200 ne219 SD0) (ow hw 69) (ow hw 6) rfl (g := (mkF m 45 #[vI pi0, vI pi1, vI nm, vI (pi1 &&& (3 : Int32)), vR b170, vR b199, vU, vU, vU] [.ref b170, .ref b199])) rfl (zs hml) (argsL := [.ref b170]) (rest := []) (lenOf pd_24 rfl) rfl (hb hby at_45) (W := 0) rfl
  obtain ⟨o223, kc224, rfl, Nq222, K222, f225, f226, f227, f228, f229, f230, f231, f232⟩ := hQ222
  have N222 := Fr.app N207 Nq222
  have g233 : n0 ≤ o223 := Nat.le_trans (own_osz F221) f225
  have F235 := (Nat.le_trans (Nat.le_trans F203 E199.1) K207.1)
  have z234 : h0.size ≤ o223 := Nat.le_trans F235 f225
  have ch236 := CHr.keep K222 (allS (Safe.exa hZ.alike F217 (by decide) (by decide)) all0) CH213.1
  have CH237 := CHr.trans CH213 ch236
  refine og T222 (mkF m 51 #[vI pi0, vI pi1, vI nm, vI (pi1 &&& (3 : Int32)), vR b170, vR b199, vU, vU, vU] [.int 1, .int nm]) (fun _ k => st222.trans (XS.pop X222.here hx rfl (hb hby at_48) rfl rfl (XS.iloadN X222.here hx rfl (hb hby at_49) rfl (XS.iconst X222.here hx rfl (hb hby at_50) k)))) ?_
  by_cases hc238 : (1 : Int32) < nm
  ·
   refine og T222 (mkF m 58 #[vI pi0, vI pi1, vI nm, vI (pi1 &&& (3 : Int32)), vR b170, vR b199, vU, vU, vU] [.ref b170, .ref b199]) (fun _ k => XS.icmpNo X222.here hx rfl (hb hby at_51) rfl (tlt hc238).2.2.2 (XS.aload X222.here hx rfl (hb hby at_54) rfl rfl (XS.aload X222.here hx rfl (hb hby at_56) rfl rfl k))) ?_
   have F239 := (F217.keep K222)
   have F240 := (F218.keep K222)
   have F241 := (F220.keep K222 (ninS ne219 nin0))
   have F242 := (F221.keep K222 (allS g200 all0))
   obtain ⟨_, T243, L243, X243, hQ243, st243⟩ := own_vc X222 hx hZ hown (ow hw 65) (ow hw 66) (ow hw 68) (ow hw 67) F239 (rm10_56 l Z a0 hw b199 o223 kc224 b170 el ee kee T222.heap n0 F242 EE0 FE0 VE0 f226 F239 f227 f230 F240 F241 f231 f232 f228 f229 g200 ne219 (Ne.symm (own_ne_lo (Nat.lt_of_lt_of_le A199.lt K207.1) f225)) g233) (ow hw 69) (ow hw 6) rfl (g := (mkF m 58 #[vI pi0, vI pi1, vI nm, vI (pi1 &&& (3 : Int32)), vR b170, vR b199, vU, vU, vU] [.ref b170, .ref b199])) rfl (zs hml) (argsL := [.ref b170]) (rest := []) (lenOf pd_24 rfl) rfl (hb hby at_58) (W := 0) rfl
   obtain ⟨rfl, Nq243, K243, f244, f245, f246, f247, f248⟩ := hQ243
   have N243 := Fr.app N222 Nq243
   have ch249 := CHr.keep K243 (allS (Safe.exa hZ.alike F239 (by decide) (by decide)) (allS (Safe.exa hZ.alike f230 (by decide) (by decide)) all0)) CH237.1
   have CH250 := CHr.trans CH237 ch249
   refine og T243 (mkF m 64 #[vI pi0, vI pi1, vI nm, vI (pi1 &&& (3 : Int32)), vR b170, vR b199, vU, vU, vU] [.int 2, .int nm]) (fun _ k => st243.trans (XS.pop X243.here hx rfl (hb hby at_61) rfl rfl (XS.iloadN X243.here hx rfl (hb hby at_62) rfl (XS.iconst X243.here hx rfl (hb hby at_63) k)))) ?_
   by_cases hc251 : (2 : Int32) < nm
   ·
    refine og T243 (mkF m 71 #[vI pi0, vI pi1, vI nm, vI (pi1 &&& (3 : Int32)), vR b170, vR b199, vU, vU, vU] [.ref b170, .ref b199]) (fun _ k => XS.icmpNo X243.here hx rfl (hb hby at_64) rfl (tlt hc251).2.2.2 (XS.aload X243.here hx rfl (hb hby at_67) rfl rfl (XS.aload X243.here hx rfl (hb hby at_69) rfl rfl k))) ?_
    have F252 := (F239.keep K243)
    have F253 := (f230.keep K243)
    have F254 := (F240.keep K243)
    have ne255 : b170 ≠ o223 := (own_ne_lo (Nat.lt_of_lt_of_le (Nat.lt_of_lt_of_le (Nat.lt_of_lt_of_le (Nat.lt_of_lt_of_le (Nat.lt_of_lt_of_le A170.lt E175.1) K183.1) K194.1) E199.1) K207.1) f225)
    have F256 := (F241.keep K243 (ninS ne219 (ninS ne255 nin0)))
    have F257 := (F242.keep K243 (allS g200 (allS g233 all0)))
    obtain ⟨_, T258, L258, X258, hQ258, st258⟩ := own_vc X243 hx hZ hown (ow hw 65) (ow hw 66) (ow hw 68) (ow hw 67) F252 (rm10_58 l Z a0 hw b199 o223 kc224 b170 el ee kee T243.heap n0 F257 EE0 FE0 VE0 f244 F252 f245 F253 F254 F256 f248 f232 f246 f247 g200 ne219 (Ne.symm (own_ne_lo (Nat.lt_of_lt_of_le A199.lt K207.1) f225)) g233) (ow hw 69) (ow hw 6) rfl (g := (mkF m 71 #[vI pi0, vI pi1, vI nm, vI (pi1 &&& (3 : Int32)), vR b170, vR b199, vU, vU, vU] [.ref b170, .ref b199])) rfl (zs hml) (argsL := [.ref b170]) (rest := []) (lenOf pd_24 rfl) rfl (hb hby at_71) (W := 0) rfl
    obtain ⟨rfl, Nq258, K258, f259, f260, f261, f262, f263⟩ := hQ258
    have N258 := Fr.app N243 Nq258
    have ch264 := CHr.keep K258 (allS (Safe.exa hZ.alike F252 (by decide) (by decide)) (allS (Safe.exa hZ.alike F253 (by decide) (by decide)) all0)) CH250.1
    have CH265 := CHr.trans CH250 ch264
    refine og T258 (mkF m 77 #[vI pi0, vI pi1, vI nm, vI (pi1 &&& (3 : Int32)), vR b170, vR b199, vU, vU, vU] [.int 3, .int nm]) (fun _ k => st258.trans (XS.pop X258.here hx rfl (hb hby at_74) rfl rfl (XS.iloadN X258.here hx rfl (hb hby at_75) rfl (XS.iconst X258.here hx rfl (hb hby at_76) k)))) ?_
    by_cases hc266 : (3 : Int32) < nm
    ·
     refine og T258 (mkF m 84 #[vI pi0, vI pi1, vI nm, vI (pi1 &&& (3 : Int32)), vR b170, vR b199, vU, vU, vU] [.ref b170, .ref b199]) (fun _ k => XS.icmpNo X258.here hx rfl (hb hby at_77) rfl (tlt hc266).2.2.2 (XS.aload X258.here hx rfl (hb hby at_80) rfl rfl (XS.aload X258.here hx rfl (hb hby at_82) rfl rfl k))) ?_
     have F267 := (F252.keep K258)
     have F268 := (F253.keep K258)
     have F269 := (F254.keep K258)
     have F270 := (F256.keep K258 (ninS ne219 (ninS ne255 nin0)))
     have F271 := (F257.keep K258 (allS g200 (allS g233 all0)))
     obtain ⟨_, T272, L272, X272, hQ272, st272⟩ := own_vc X258 hx hZ hown (ow hw 65) (ow hw 66) (ow hw 68) (ow hw 67) F267 (rm10_60 l Z a0 hw b199 o223 kc224 b170 el ee kee T258.heap n0 F271 EE0 FE0 VE0 f259 F267 f260 F268 F269 F270 f263 f232 f261 f262 g200 ne219 (Ne.symm (own_ne_lo (Nat.lt_of_lt_of_le A199.lt K207.1) f225)) g233) (ow hw 69) (ow hw 6) rfl (g := (mkF m 84 #[vI pi0, vI pi1, vI nm, vI (pi1 &&& (3 : Int32)), vR b170, vR b199, vU, vU, vU] [.ref b170, .ref b199])) rfl (zs hml) (argsL := [.ref b170]) (rest := []) (lenOf pd_24 rfl) rfl (hb hby at_84) (W := 0) rfl
     obtain ⟨rfl, Nq272, K272, f273, f274, f275, f276, f277⟩ := hQ272
     have N272 := Fr.app N258 Nq272
     have ch278 := CHr.keep K272 (allS (Safe.exa hZ.alike F267 (by decide) (by decide)) (allS (Safe.exa hZ.alike F268 (by decide) (by decide)) all0)) CH265.1
     have CH279 := CHr.trans CH265 ch278
     refine og T272 (mkF m 90 #[vI pi0, vI pi1, vI nm, vI (pi1 &&& (3 : Int32)), vR b170, vR b199, vU, vU, vU] [.int 4, .int nm]) (fun _ k => st272.trans (XS.pop X272.here hx rfl (hb hby at_87) rfl rfl (XS.iloadN X272.here hx rfl (hb hby at_88) rfl (XS.iconst X272.here hx rfl (hb hby at_89) k)))) ?_
     by_cases hc280 : (4 : Int32) < nm
     ·
      refine og T272 (mkF m 97 #[vI pi0, vI pi1, vI nm, vI (pi1 &&& (3 : Int32)), vR b170, vR b199, vU, vU, vU] [.ref b170, .ref b199]) (fun _ k => XS.icmpNo X272.here hx rfl (hb hby at_90) rfl (tlt hc280).2.2.2 (XS.aload X272.here hx rfl (hb hby at_93) rfl rfl (XS.aload X272.here hx rfl (hb hby at_95) rfl rfl k))) ?_
      have F281 := (F267.keep K272)
      have F282 := (F268.keep K272)
      have F283 := (F269.keep K272)
      have F284 := (F270.keep K272 (ninS ne219 (ninS ne255 nin0)))
      have F285 := (F271.keep K272 (allS g200 (allS g233 all0)))
      obtain ⟨_, T286, L286, X286, hQ286, st286⟩ := own_vc X272 hx hZ hown (ow hw 65) (ow hw 66) (ow hw 68) (ow hw 67) F281 (rm10_62 l Z a0 hw b199 o223 kc224 b170 el ee kee T272.heap n0 F285 EE0 FE0 VE0 f273 F281 f274 F282 F283 F284 f277 f232 f275 f276 g200 ne219 (Ne.symm (own_ne_lo (Nat.lt_of_lt_of_le A199.lt K207.1) f225)) g233) (ow hw 69) (ow hw 6) rfl (g := (mkF m 97 #[vI pi0, vI pi1, vI nm, vI (pi1 &&& (3 : Int32)), vR b170, vR b199, vU, vU, vU] [.ref b170, .ref b199])) rfl (zs hml) (argsL := [.ref b170]) (rest := []) (lenOf pd_24 rfl) rfl (hb hby at_97) (W := 0) rfl
      obtain ⟨rfl, Nq286, K286, f287, f288, f289, f290, f291⟩ := hQ286
      have N286 := Fr.app N272 Nq286
      have ch292 := CHr.keep K286 (allS (Safe.exa hZ.alike F281 (by decide) (by decide)) (allS (Safe.exa hZ.alike F282 (by decide) (by decide)) all0)) CH279.1
      have CH293 := CHr.trans CH279 ch292
      refine og T286 (mkF m 103 #[vI pi0, vI pi1, vI nm, vI (pi1 &&& (3 : Int32)), vR b170, vR b199, vU, vU, vU] [.int 5, .int nm]) (fun _ k => st286.trans (XS.pop X286.here hx rfl (hb hby at_100) rfl rfl (XS.iloadN X286.here hx rfl (hb hby at_101) rfl (XS.iconst X286.here hx rfl (hb hby at_102) k)))) ?_
      by_cases hc294 : (5 : Int32) < nm
      ·
       refine og T286 (mkF m 110 #[vI pi0, vI pi1, vI nm, vI (pi1 &&& (3 : Int32)), vR b170, vR b199, vU, vU, vU] [.ref b170, .ref b199]) (fun _ k => XS.icmpNo X286.here hx rfl (hb hby at_103) rfl (tlt hc294).2.2.2 (XS.aload X286.here hx rfl (hb hby at_106) rfl rfl (XS.aload X286.here hx rfl (hb hby at_108) rfl rfl k))) ?_
       have F295 := (F281.keep K286)
       have F296 := (F282.keep K286)
       have F297 := (F283.keep K286)
       have F298 := (F284.keep K286 (ninS ne219 (ninS ne255 nin0)))
       have F299 := (F285.keep K286 (allS g200 (allS g233 all0)))
       obtain ⟨_, T300, L300, X300, hQ300, st300⟩ := own_vc X286 hx hZ hown (ow hw 65) (ow hw 66) (ow hw 68) (ow hw 67) F295 (rm10_64 l Z a0 hw b199 o223 kc224 b170 el ee kee T286.heap n0 F299 EE0 FE0 VE0 f287 F295 f288 F296 F297 F298 f291 f232 f289 f290 g200 ne219 (Ne.symm (own_ne_lo (Nat.lt_of_lt_of_le A199.lt K207.1) f225)) g233) (ow hw 69) (ow hw 6) rfl (g := (mkF m 110 #[vI pi0, vI pi1, vI nm, vI (pi1 &&& (3 : Int32)), vR b170, vR b199, vU, vU, vU] [.ref b170, .ref b199])) rfl (zs hml) (argsL := [.ref b170]) (rest := []) (lenOf pd_24 rfl) rfl (hb hby at_110) (W := 0) rfl
       obtain ⟨rfl, Nq300, K300, f301, f302, f303, f304, f305⟩ := hQ300
       have N300 := Fr.app N286 Nq300
       have ch306 := CHr.keep K300 (allS (Safe.exa hZ.alike F295 (by decide) (by decide)) (allS (Safe.exa hZ.alike F296 (by decide) (by decide)) all0)) CH293.1
       have CH307 := CHr.trans CH293 ch306
       refine og T300 (mkF m 117 #[vI pi0, vI pi1, vI nm, vI (pi1 &&& (3 : Int32)), vR b170, vR b199, vU, vU, vU] [.int 6, .int nm]) (fun _ k => st300.trans (XS.pop X300.here hx rfl (hb hby at_113) rfl rfl (XS.iloadN X300.here hx rfl (hb hby at_114) rfl (XS.bipush X300.here hx rfl (hb hby at_115) k)))) ?_
       by_cases hc308 : (6 : Int32) < nm
       ·
        refine og T300 (mkF m 124 #[vI pi0, vI pi1, vI nm, vI (pi1 &&& (3 : Int32)), vR b170, vR b199, vU, vU, vU] [.ref b170, .ref b199]) (fun _ k => XS.icmpNo X300.here hx rfl (hb hby at_117) rfl (tlt hc308).2.2.2 (XS.aload X300.here hx rfl (hb hby at_120) rfl rfl (XS.aload X300.here hx rfl (hb hby at_122) rfl rfl k))) ?_
        have F309 := (F295.keep K300)
        have F310 := (F296.keep K300)
        have F311 := (F297.keep K300)
        have F312 := (F298.keep K300 (ninS ne219 (ninS ne255 nin0)))
        have F313 := (F299.keep K300 (allS g200 (allS g233 all0)))
        obtain ⟨_, T314, L314, X314, hQ314, st314⟩ := own_vc X300 hx hZ hown (ow hw 65) (ow hw 66) (ow hw 68) (ow hw 67) F309 (rm10_66 l Z a0 hw b199 o223 kc224 b170 el ee kee T300.heap n0 F313 EE0 FE0 VE0 f301 F309 f302 F310 F311 F312 f305 f232 f303 f304 g200 ne219 (Ne.symm (own_ne_lo (Nat.lt_of_lt_of_le A199.lt K207.1) f225)) g233) (ow hw 69) (ow hw 6) rfl (g := (mkF m 124 #[vI pi0, vI pi1, vI nm, vI (pi1 &&& (3 : Int32)), vR b170, vR b199, vU, vU, vU] [.ref b170, .ref b199])) rfl (zs hml) (argsL := [.ref b170]) (rest := []) (lenOf pd_24 rfl) rfl (hb hby at_124) (W := 0) rfl
        obtain ⟨rfl, Nq314, K314, f315, f316, f317, f318, f319⟩ := hQ314
        have N314 := Fr.app N300 Nq314
        have ch320 := CHr.keep K314 (allS (Safe.exa hZ.alike F309 (by decide) (by decide)) (allS (Safe.exa hZ.alike F310 (by decide) (by decide)) all0)) CH307.1
        have CH321 := CHr.trans CH307 ch320
        refine og T314 (mkF m 131 #[vI pi0, vI pi1, vI nm, vI (pi1 &&& (3 : Int32)), vR b170, vR b199, vU, vU, vU] [.int 7, .int nm]) (fun _ k => st314.trans (XS.pop X314.here hx rfl (hb hby at_127) rfl rfl (XS.iloadN X314.here hx rfl (hb hby at_128) rfl (XS.bipush X314.here hx rfl (hb hby at_129) k)))) ?_
        by_cases hc322 : (7 : Int32) < nm
        ·
         refine og T314 (mkF m 138 #[vI pi0, vI pi1, vI nm, vI (pi1 &&& (3 : Int32)), vR b170, vR b199, vU, vU, vU] [.ref b170, .ref b199]) (fun _ k => XS.icmpNo X314.here hx rfl (hb hby at_131) rfl (tlt hc322).2.2.2 (XS.aload X314.here hx rfl (hb hby at_134) rfl rfl (XS.aload X314.here hx rfl (hb hby at_136) rfl rfl k))) ?_
         have F323 := (F309.keep K314)
         have F324 := (F310.keep K314)
         have F325 := (F311.keep K314)
         have F326 := (F312.keep K314 (ninS ne219 (ninS ne255 nin0)))
         have F327 := (F313.keep K314 (allS g200 (allS g233 all0)))
         obtain ⟨_, T328, L328, X328, hQ328, st328⟩ := own_vc X314 hx hZ hown (ow hw 65) (ow hw 66) (ow hw 68) (ow hw 67) F323 (rm10_68 l Z a0 hw b199 o223 kc224 b170 el ee kee T314.heap n0 F327 EE0 FE0 VE0 f315 F323 f316 F324 F325 F326 f319 f232 f317 f318 g200 ne219 (Ne.symm (own_ne_lo (Nat.lt_of_lt_of_le A199.lt K207.1) f225)) g233) (ow hw 69) (ow hw 6) rfl (g := (mkF m 138 #[vI pi0, vI pi1, vI nm, vI (pi1 &&& (3 : Int32)), vR b170, vR b199, vU, vU, vU] [.ref b170, .ref b199])) rfl (zs hml) (argsL := [.ref b170]) (rest := []) (lenOf pd_24 rfl) rfl (hb hby at_138) (W := 0) rfl
         obtain ⟨rfl, Nq328, K328, f329, f330, f331, f332, f333⟩ := hQ328
         have N328 := Fr.app N314 Nq328
         have ch334 := CHr.keep K328 (allS (Safe.exa hZ.alike F323 (by decide) (by decide)) (allS (Safe.exa hZ.alike F324 (by decide) (by decide)) all0)) CH321.1
         have CH335 := CHr.trans CH321 ch334
         refine og T328 (mkF m 145 #[vI pi0, vI pi1, vI nm, vI (pi1 &&& (3 : Int32)), vR b170, vR b199, vU, vU, vU] [.int 8, .int nm]) (fun _ k => st328.trans (XS.pop X328.here hx rfl (hb hby at_141) rfl rfl (XS.iloadN X328.here hx rfl (hb hby at_142) rfl (XS.bipush X328.here hx rfl (hb hby at_143) k)))) ?_
         by_cases hc336 : (8 : Int32) < nm
         ·
          refine og T328 (mkF m 152 #[vI pi0, vI pi1, vI nm, vI (pi1 &&& (3 : Int32)), vR b170, vR b199, vU, vU, vU] [.ref b170, .ref b199]) (fun _ k => XS.icmpNo X328.here hx rfl (hb hby at_145) rfl (tlt hc336).2.2.2 (XS.aload X328.here hx rfl (hb hby at_148) rfl rfl (XS.aload X328.here hx rfl (hb hby at_150) rfl rfl k))) ?_
          have F337 := (F323.keep K328)
          have F338 := (F324.keep K328)
          have F339 := (F325.keep K328)
          have F340 := (F326.keep K328 (ninS ne219 (ninS ne255 nin0)))
          have F341 := (F327.keep K328 (allS g200 (allS g233 all0)))
          obtain ⟨_, T342, L342, X342, hQ342, st342⟩ := own_vc X328 hx hZ hown (ow hw 65) (ow hw 66) (ow hw 68) (ow hw 67) F337 (rm10_70 l Z a0 hw b199 o223 kc224 b170 el ee kee T328.heap n0 F341 EE0 FE0 VE0 f329 F337 f330 F338 F339 F340 f333 f232 f331 f332 g200 ne219 (Ne.symm (own_ne_lo (Nat.lt_of_lt_of_le A199.lt K207.1) f225)) g233) (ow hw 69) (ow hw 6) rfl (g := (mkF m 152 #[vI pi0, vI pi1, vI nm, vI (pi1 &&& (3 : Int32)), vR b170, vR b199, vU, vU, vU] [.ref b170, .ref b199])) rfl (zs hml) (argsL := [.ref b170]) (rest := []) (lenOf pd_24 rfl) rfl (hb hby at_152) (W := 0) rfl
          obtain ⟨rfl, Nq342, K342, f343, f344, f345, f346, f347⟩ := hQ342
          have N342 := Fr.app N328 Nq342
          have ch348 := CHr.keep K342 (allS (Safe.exa hZ.alike F337 (by decide) (by decide)) (allS (Safe.exa hZ.alike F338 (by decide) (by decide)) all0)) CH335.1
          have CH349 := CHr.trans CH335 ch348
          refine og T342 (mkF m 156 #[vI pi0, vI pi1, vI nm, vI (pi1 &&& (3 : Int32)), vR b170, vR b199, vU, vU, vU] []) (fun _ k => st342.trans (XS.pop X342.here hx rfl (hb hby at_155) rfl rfl k)) ?_
          have hm : nm = (9 : Int32) := own_eqk hc336 hr1 (by decide)
          rw [hm]
          have K351 := ((((KP214.trans K222 (allS (Or.inr z202) all0)).trans K243 (allS (Or.inr z202) (allS (Or.inr z234) all0))).trans K258 (allS (Or.inr z202) (allS (Or.inr z234) all0))).trans K272 (allS (Or.inr z202) (allS (Or.inr z234) all0)))
          have K352 := ((((K351.trans K286 (allS (Or.inr z202) (allS (Or.inr z234) all0))).trans K300 (allS (Or.inr z202) (allS (Or.inr z234) all0))).trans K314 (allS (Or.inr z202) (allS (Or.inr z234) all0))).trans K328 (allS (Or.inr z202) (allS (Or.inr z234) all0)))
          have KP350 := (K352.trans K342 (allS (Or.inr z202) (allS (Or.inr z234) all0)))
          obtain ⟨T353, h353, X353, e353, E353, A353, D353, U353, st353⟩ := newO X342 hx hZ hown (ow hw 1) (ow hw 2) (ow hw 3) rfl (g := (mkF m 156 #[vI pi0, vI pi1, vI 9, vI (pi1 &&& (3 : Int32)), vR b170, vR b199, vU, vU, vU] [])) rfl (hb hby at_156) (lb rfl) (lb rfl)
          obtain ⟨b353, gb353⟩ : ∃ z, z = T342.heap.size := ⟨_, rfl⟩
          rw [← gb353] at A353 D353 U353 st353
          have F355 := (F341.keep K342 (allS g200 (allS g233 all0)))
          have g354 : n0 ≤ b353 := Nat.le_trans (own_osz F355) (Nat.le_of_eq gb353.symm)
          have F357 := (Nat.le_trans (Nat.le_trans (Nat.le_trans (Nat.le_trans F235 K222.1) K243.1) K258.1) K272.1)
          have F358 := (Nat.le_trans (Nat.le_trans (Nat.le_trans (Nat.le_trans F357 K286.1) K300.1) K314.1) K328.1)
          have F359 := (Nat.le_trans F358 K342.1)
          have z356 : h0.size ≤ b353 := Nat.le_trans F359 (Nat.le_of_eq gb353.symm)
          have ch360 := CHr.ext E353 CH349.1
          have CH361 := CHr.trans CH349 ch360
          refine og T353 (mkF m 162 #[vI pi0, vI pi1, vI 9, vI (pi1 &&& (3 : Int32)), vR b170, vR b199, vU, vU, vU] [.ref b199, .ref b353, .ref b353]) (fun _ k => st353 _ (XS.dup X353.here hx rfl (hb hby at_159) rfl rfl (XS.aload X353.here hx rfl (hb hby at_160) rfl rfl k))) ?_
          have F362 := (f343.ext E353)
          have F363 := ((F337.keep K342).ext E353)
          have F364 := (f344.ext E353)
          have F365 := ((F338.keep K342).ext E353)
          have F366 := ((F339.keep K342).ext E353)
          have F367 := ((F340.keep K342 (ninS ne219 (ninS ne255 nin0))).ext E353)
          have F368 := (f347.ext E353)
          have F369 := (f345.ext E353)
          have F370 := (f346.ext E353)
          have F371 := (F355.ext E353)
          obtain ⟨_, T372, L372, X372, hQ372, st372⟩ := own_sc X353 hx hZ rfl hown (ow hw 30) (ow hw 31) (rm5_72 l Z a0 hw b353 b199 o223 kc224 b170 el ee kee em mo h353 n0 F371 EE0 FE0 VE0 A353 (D353 (Or.inr (ow hw 64)) (ty := (.object "java/util/List")) (by decide)) F362 F363 F364 F365 F366 F367 F368 f232 F369 F370 EM0 Mmo SM0 SE0 (own_ne_lo (Nat.lt_of_lt_of_le A199.lt K207.1) f225) g354) (ow hw 32) (ow hw 3) e353 (g := (mkF m 162 #[vI pi0, vI pi1, vI 9, vI (pi1 &&& (3 : Int32)), vR b170, vR b199, vU, vU, vU] [.ref b199, .ref b353, .ref b353])) rfl (zs hml) (argsL := [.ref b199]) (rest := [.ref b353]) (lenOf pd_27 rfl) rfl (hb hby at_162) (W := 1) rfl
          obtain ⟨o373, o374, kc375, vq376, rfl, Nq372, K372, f377, f378, f379, f380, f381, f382⟩ := hQ372
          have N372 := Fr.app N342 Nq372
          have g383 : n0 ≤ o373 := Nat.le_trans (own_osz F371) f377
          have F385 := (Nat.le_trans F359 E353.1)
          have z384 : h0.size ≤ o373 := Nat.le_trans F385 f377
          have g386 : n0 ≤ o374 := Nat.le_trans (own_osz F371) f378
          have z387 : h0.size ≤ o374 := Nat.le_trans F385 f378
          have ch388 := CHr.keep K372 (allS (Safe.exa hZ.alike A353 (by decide) (by decide)) all0) CH361.1
          have CH389 := CHr.trans CH361 ch388
          refine og T372 (mkF m 167 #[vI pi0, vI pi1, vI 9, vI (pi1 &&& (3 : Int32)), vR b170, vR b199, vR b353, vU, vU] []) (fun _ k => st372.trans (XS.astore X372.here hx rfl (hb hby at_165) rfl rfl (l' := #[vI pi0, vI pi1, vI 9, vI (pi1 &&& (3 : Int32)), vR b170, vR b199, vR b353, vU, vU]) rfl k)) ?_
          have KP390 := ((KP350.ext E353).trans K372 (allS (Or.inr z356) all0))
          refine og T372 (mkF m 168 #[vI pi0, vI pi1, vI 9, vI (pi1 &&& (3 : Int32)), vR b170, vR b199, vR b353, vU, vU] [(.int (pi1 &&& (3 : Int32)))]) (fun _ k => XS.iloadN X372.here hx rfl (hb hby at_167) rfl k) ?_
          by_cases hc391 : (0 : Int32) < (pi1 &&& (3 : Int32))
          ·
           refine og T372 (mkF m 175 #[vI pi0, vI pi1, vI 9, vI (pi1 &&& (3 : Int32)), vR b170, vR b199, vR b353, vU, vU] [.ref b170, .ref b199]) (fun _ k => XS.ifNo X372.here hx rfl (hb hby at_168) rfl ((if0 _ _).trans (tlt hc391).2.2.2) (XS.aload X372.here hx rfl (hb hby at_171) rfl rfl (XS.aload X372.here hx rfl (hb hby at_173) rfl rfl k))) ?_
           have ne392 : b199 ≠ b353 := (own_ne_lo (Nat.lt_of_lt_of_le (Nat.lt_of_lt_of_le (Nat.lt_of_lt_of_le (Nat.lt_of_lt_of_le (Nat.lt_of_lt_of_le (Nat.lt_of_lt_of_le (Nat.lt_of_lt_of_le (Nat.lt_of_lt_of_le (Nat.lt_of_lt_of_le (Nat.lt_of_lt_of_le A199.lt K207.1) K222.1) K243.1) K258.1) K272.1) K286.1) K300.1) K314.1) K328.1) K342.1) (Nat.le_of_eq gb353.symm))
           have F393 := (F362.keep K372 (ninS ne392 nin0))
           have F394 := (F363.keep K372)
           have F395 := (F364.keep K372 (ninS ne392 nin0))
           have F396 := (F365.keep K372)
           have F397 := (F366.keep K372)
           have ne398 : b170 ≠ b353 := (own_ne_lo (Nat.lt_of_lt_of_le (Nat.lt_of_lt_of_le (Nat.lt_of_lt_of_le (Nat.lt_of_lt_of_le (Nat.lt_of_lt_of_le (Nat.lt_of_lt_of_le (Nat.lt_of_lt_of_le (Nat.lt_of_lt_of_le (Nat.lt_of_lt_of_le (Nat.lt_of_lt_of_le (Nat.lt_of_lt_of_le (Nat.lt_of_lt_of_le (Nat.lt_of_lt_of_le (Nat.lt_of_lt_of_le A170.lt E175.1) K183.1) K194.1) E199.1) K207.1) K222.1) K243.1) K258.1) K272.1) K286.1) K300.1) K314.1) K328.1) K342.1) (Nat.le_of_eq gb353.symm))
           have F399 := (F367.keep K372 (ninS ne398 nin0))
           have ne400 : o223 ≠ b353 := (own_ne_lo (Nat.lt_of_lt_of_le (Nat.lt_of_lt_of_le (Nat.lt_of_lt_of_le (Nat.lt_of_lt_of_le (Nat.lt_of_lt_of_le (Nat.lt_of_lt_of_le (Nat.lt_of_lt_of_le (Nat.lt_of_lt_of_le f230.lt K243.1) K258.1) K272.1) K286.1) K300.1) K314.1) K328.1) K342.1) (Nat.le_of_eq gb353.symm))
           have F401 := (F368.keep K372 (ninS ne400 nin0))
           have F402 := (F369.keep K372 (ninS ne392 nin0))
           have F403 := (F370.keep K372 (ninS ne392 nin0))
           have F404 := (F371.keep K372 (allS g354 all0))
           obtain ⟨_, T405, L405, X405, hQ405, st405⟩ := own_vc X372 hx hZ hown (ow hw 65) (ow hw 66) (ow hw 68) (ow hw 67) F394 (rm10_73 l Z a0 hw b199 o223 kc224 b170 el ee kee T372.heap n0 F404 EE0 FE0 VE0 F393 F394 F395 F396 F397 F399 F401 f232 F402 F403 g200 ne219 (Ne.symm (own_ne_lo (Nat.lt_of_lt_of_le A199.lt K207.1) f225)) g233) (ow hw 69) (ow hw 6) rfl (g := (mkF m 175 #[vI pi0, vI pi1, vI 9, vI (pi1 &&& (3 : Int32)), vR b170, vR b199, vR b353, vU, vU] [.ref b170, .ref b199])) rfl (zs hml) (argsL := [.ref b170]) (rest := []) (lenOf pd_24 rfl) rfl (hb hby at_175) (W := 0) rfl
           obtain ⟨rfl, Nq405, K405, f406, f407, f408, f409, f410⟩ := hQ405
           have N405 := Fr.app N372 Nq405
           have ch411 := CHr.keep K405 (allS (Safe.exa hZ.alike F394 (by decide) (by decide)) (allS (Safe.exa hZ.alike F396 (by decide) (by decide)) all0)) CH389.1
           have CH412 := CHr.trans CH389 ch411
           refine og T405 (mkF m 181 #[vI pi0, vI pi1, vI 9, vI (pi1 &&& (3 : Int32)), vR b170, vR b199, vR b353, vU, vU] [.int 1, (.int (pi1 &&& (3 : Int32)))]) (fun _ k => st405.trans (XS.pop X405.here hx rfl (hb hby at_178) rfl rfl (XS.iloadN X405.here hx rfl (hb hby at_179) rfl (XS.iconst X405.here hx rfl (hb hby at_180) k)))) ?_
           by_cases hc413 : (1 : Int32) < (pi1 &&& (3 : Int32))
           ·
            refine og T405 (mkF m 188 #[vI pi0, vI pi1, vI 9, vI (pi1 &&& (3 : Int32)), vR b170, vR b199, vR b353, vU, vU] [.ref b170, .ref b199]) (fun _ k => XS.icmpNo X405.here hx rfl (hb hby at_181) rfl (tlt hc413).2.2.2 (XS.aload X405.here hx rfl (hb hby at_184) rfl rfl (XS.aload X405.here hx rfl (hb hby at_186) rfl rfl k))) ?_
            have F414 := (F394.keep K405)
            have F415 := (F396.keep K405)
            have F416 := (F397.keep K405)
            have F417 := (F399.keep K405 (ninS ne219 (ninS ne255 nin0)))
            have F418 := (F404.keep K405 (allS g200 (allS g233 all0)))
            obtain ⟨_, T419, L419, X419, hQ419, st419⟩ := own_vc X405 hx hZ hown (ow hw 65) (ow hw 66) (ow hw 68) (ow hw 67) F414 (rm10_75 l Z a0 hw b199 o223 kc224 b170 el ee kee mo T405.heap n0 F418 EE0 FE0 VE0 f406 F414 f407 F415 F416 F417 f410 f232 f408 f409 g200 ne219 (Ne.symm (own_ne_lo (Nat.lt_of_lt_of_le A199.lt K207.1) f225)) Mmo) (ow hw 69) (ow hw 6) rfl (g := (mkF m 188 #[vI pi0, vI pi1, vI 9, vI (pi1 &&& (3 : Int32)), vR b170, vR b199, vR b353, vU, vU] [.ref b170, .ref b199])) rfl (zs hml) (argsL := [.ref b170]) (rest := []) (lenOf pd_24 rfl) rfl (hb hby at_188) (W := 0) rfl
            obtain ⟨o420, kc421, rfl, Nq419, K419, f422, f423, f424, f425, f426, f427, f428, f429⟩ := hQ419
            have N419 := Fr.app N405 Nq419
            have g430 : n0 ≤ o420 := Nat.le_trans (own_osz F418) f422
            have F432 := (Nat.le_trans (Nat.le_trans F385 K372.1) K405.1)
            have z431 : h0.size ≤ o420 := Nat.le_trans F432 f422
            have ch433 := CHr.keep K419 (allS (Safe.exa hZ.alike F414 (by decide) (by decide)) all0) CH412.1
            have CH434 := CHr.trans CH412 ch433
            refine og T419 (mkF m 194 #[vI pi0, vI pi1, vI 9, vI (pi1 &&& (3 : Int32)), vR b170, vR b199, vR b353, vU, vU] [.int 2, (.int (pi1 &&& (3 : Int32)))]) (fun _ k => st419.trans (XS.pop X419.here hx rfl (hb hby at_191) rfl rfl (XS.iloadN X419.here hx rfl (hb hby at_192) rfl (XS.iconst X419.here hx rfl (hb hby at_193) k)))) ?_
            by_cases hc435 : (2 : Int32) < (pi1 &&& (3 : Int32))
            ·
             refine og T419 (mkF m 201 #[vI pi0, vI pi1, vI 9, vI (pi1 &&& (3 : Int32)), vR b170, vR b199, vR b353, vU, vU] [.ref b170, .ref b199]) (fun _ k => XS.icmpNo X419.here hx rfl (hb hby at_194) rfl (tlt hc435).2.2.2 (XS.aload X419.here hx rfl (hb hby at_197) rfl rfl (XS.aload X419.here hx rfl (hb hby at_199) rfl rfl k))) ?_
             have F436 := (F414.keep K419)
             have F437 := (F416.keep K419)
             have F438 := (F417.keep K419 (ninS ne219 nin0))
             have ne439 : b199 ≠ o420 := (own_ne_lo (Nat.lt_of_lt_of_le (Nat.lt_of_lt_of_le (Nat.lt_of_lt_of_le (Nat.lt_of_lt_of_le (Nat.lt_of_lt_of_le (Nat.lt_of_lt_of_le (Nat.lt_of_lt_of_le (Nat.lt_of_lt_of_le (Nat.lt_of_lt_of_le (Nat.lt_of_lt_of_le (Nat.lt_of_lt_of_le (Nat.lt_of_lt_of_le (Nat.lt_of_lt_of_le A199.lt K207.1) K222.1) K243.1) K258.1) K272.1) K286.1) K300.1) K314.1) K328.1) K342.1) E353.1) K372.1) K405.1) f422)
             have F440 := (F418.keep K419 (allS g200 all0))
             obtain ⟨_, T441, L441, X441, hQ441, st441⟩ := own_vc X419 hx hZ hown (ow hw 65) (ow hw 66) (ow hw 68) (ow hw 67) F436 (rm10_84 l Z a0 hw b199 o420 kc421 b170 el ee kee T419.heap n0 F440 EE0 FE0 VE0 f423 F436 f424 f427 F437 F438 f428 f429 f425 f426 g200 ne219 (Ne.symm ne439) g430) (ow hw 69) (ow hw 6) rfl (g := (mkF m 201 #[vI pi0, vI pi1, vI 9, vI (pi1 &&& (3 : Int32)), vR b170, vR b199, vR b353, vU, vU] [.ref b170, .ref b199])) rfl (zs hml) (argsL := [.ref b170]) (rest := []) (lenOf pd_24 rfl) rfl (hb hby at_201) (W := 0) rfl
             obtain ⟨rfl, Nq441, K441, f442, f443, f444, f445, f446⟩ := hQ441
             have N441 := Fr.app N419 Nq441
             have ch447 := CHr.keep K441 (allS (Safe.exa hZ.alike F436 (by decide) (by decide)) (allS (Safe.exa hZ.alike f427 (by decide) (by decide)) all0)) CH434.1
             have CH448 := CHr.trans CH434 ch447
             refine og T441 (mkF m 205 #[vI pi0, vI pi1, vI 9, vI (pi1 &&& (3 : Int32)), vR b170, vR b199, vR b353, vU, vU] []) (fun _ k => st441.trans (XS.pop X441.here hx rfl (hb hby at_204) rfl rfl k)) ?_
             have F449 := ((((A353.keep K372).keep K405).keep K419).keep K441)
             have ne450 : b353 ≠ o420 := (own_ne_lo (Nat.lt_of_lt_of_le (Nat.lt_of_lt_of_le A353.lt K372.1) K405.1) f422)
             have F451 := (((f379.keep K405 (ninS (Ne.symm ne392) (ninS (Ne.symm ne400) nin0))).keep K419 (ninS (Ne.symm ne392) nin0)).keep K441 (ninS (Ne.symm ne392) (ninS ne450 nin0)))
             have F452 := (((f380.keep K405).keep K419).keep K441)
             have ne453 : o223 ≠ o374 := (own_ne_lo (Nat.lt_of_lt_of_le (Nat.lt_of_lt_of_le (Nat.lt_of_lt_of_le (Nat.lt_of_lt_of_le (Nat.lt_of_lt_of_le (Nat.lt_of_lt_of_le (Nat.lt_of_lt_of_le (Nat.lt_of_lt_of_le (Nat.lt_of_lt_of_le f230.lt K243.1) K258.1) K272.1) K286.1) K300.1) K314.1) K328.1) K342.1) E353.1) f378)
             have ne454 : b199 ≠ o374 := (own_ne_lo (Nat.lt_of_lt_of_le (Nat.lt_of_lt_of_le (Nat.lt_of_lt_of_le (Nat.lt_of_lt_of_le (Nat.lt_of_lt_of_le (Nat.lt_of_lt_of_le (Nat.lt_of_lt_of_le (Nat.lt_of_lt_of_le (Nat.lt_of_lt_of_le (Nat.lt_of_lt_of_le (Nat.lt_of_lt_of_le A199.lt K207.1) K222.1) K243.1) K258.1) K272.1) K286.1) K300.1) K314.1) K328.1) K342.1) E353.1) f378)
             have F455 := (((f382.keep K405 (ninS (Ne.symm ne454) (ninS (Ne.symm ne453) nin0))).keep K419 (ninS (Ne.symm ne454) nin0)).keep K441 (ninS (Ne.symm ne454) (ninS (own_ne_lo (Nat.lt_of_lt_of_le f382.lt K405.1) f422) nin0)))
             have ne456 : o223 ≠ o373 := (own_ne_lo (Nat.lt_of_lt_of_le (Nat.lt_of_lt_of_le (Nat.lt_of_lt_of_le (Nat.lt_of_lt_of_le (Nat.lt_of_lt_of_le (Nat.lt_of_lt_of_le (Nat.lt_of_lt_of_le (Nat.lt_of_lt_of_le (Nat.lt_of_lt_of_le f230.lt K243.1) K258.1) K272.1) K286.1) K300.1) K314.1) K328.1) K342.1) E353.1) f377)
             have ne457 : b199 ≠ o373 := (own_ne_lo (Nat.lt_of_lt_of_le (Nat.lt_of_lt_of_le (Nat.lt_of_lt_of_le (Nat.lt_of_lt_of_le (Nat.lt_of_lt_of_le (Nat.lt_of_lt_of_le (Nat.lt_of_lt_of_le (Nat.lt_of_lt_of_le (Nat.lt_of_lt_of_le (Nat.lt_of_lt_of_le (Nat.lt_of_lt_of_le A199.lt K207.1) K222.1) K243.1) K258.1) K272.1) K286.1) K300.1) K314.1) K328.1) K342.1) E353.1) f377)
             have F458 := (((f381.keep K405 (ninS (Ne.symm ne457) (ninS (Ne.symm ne456) nin0))).keep K419 (ninS (Ne.symm ne457) nin0)).keep K441 (ninS (Ne.symm ne457) (ninS (own_ne_lo (Nat.lt_of_lt_of_le f380.lt K405.1) f422) nin0)))
             have KEEP := (((KP390.trans K405 (allS (Or.inr z202) (allS (Or.inr z234) all0))).trans K419 (allS (Or.inr z202) all0)).trans K441 (allS (Or.inr z202) (allS (Or.inr z431) all0)))
             exact J1 _ _ _ b170 b199 b353 o373 o374 (9 : Int32) (own_wk X441 (lb rfl) (lb rfl)) rfl N441 KEEP z356 F449 F451 (Or.inl ⟨F452, F458, _, _, F455⟩) F452.lt F455.lt ⟨⟨9, by decide⟩, rfl⟩
            ·
             refine og T419 (mkF m 205 #[vI pi0, vI pi1, vI 9, vI (pi1 &&& (3 : Int32)), vR b170, vR b199, vR b353, vU, vU] []) (fun _ k => XS.icmpYes X419.here hx rfl (pc0 := 194) (pc' := 205) rfl (hb hby at_194) rfl (flt hc435).2.2.2 (by decide) (by decide) k) ?_
             have F459 := (((A353.keep K372).keep K405).keep K419)
             have F460 := ((f379.keep K405 (ninS (Ne.symm ne392) (ninS (Ne.symm ne400) nin0))).keep K419 (ninS (Ne.symm ne392) nin0))
             have F461 := ((f380.keep K405).keep K419)
             have ne462 : o223 ≠ o374 := (own_ne_lo (Nat.lt_of_lt_of_le (Nat.lt_of_lt_of_le (Nat.lt_of_lt_of_le (Nat.lt_of_lt_of_le (Nat.lt_of_lt_of_le (Nat.lt_of_lt_of_le (Nat.lt_of_lt_of_le (Nat.lt_of_lt_of_le (Nat.lt_of_lt_of_le f230.lt K243.1) K258.1) K272.1) K286.1) K300.1) K314.1) K328.1) K342.1) E353.1) f378)
             have ne463 : b199 ≠ o374 := (own_ne_lo (Nat.lt_of_lt_of_le (Nat.lt_of_lt_of_le (Nat.lt_of_lt_of_le (Nat.lt_of_lt_of_le (Nat.lt_of_lt_of_le (Nat.lt_of_lt_of_le (Nat.lt_of_lt_of_le (Nat.lt_of_lt_of_le (Nat.lt_of_lt_of_le (Nat.lt_of_lt_of_le (Nat.lt_of_lt_of_le A199.lt K207.1) K222.1) K243.1) K258.1) K272.1) K286.1) K300.1) K314.1) K328.1) K342.1) E353.1) f378)
             have F464 := ((f382.keep K405 (ninS (Ne.symm ne463) (ninS (Ne.symm ne462) nin0))).keep K419 (ninS (Ne.symm ne463) nin0))
             have ne465 : o223 ≠ o373 := (own_ne_lo (Nat.lt_of_lt_of_le (Nat.lt_of_lt_of_le (Nat.lt_of_lt_of_le (Nat.lt_of_lt_of_le (Nat.lt_of_lt_of_le (Nat.lt_of_lt_of_le (Nat.lt_of_lt_of_le (Nat.lt_of_lt_of_le (Nat.lt_of_lt_of_le f230.lt K243.1) K258.1) K272.1) K286.1) K300.1) K314.1) K328.1) K342.1) E353.1) f377)
             have ne466 : b199 ≠ o373 := (own_ne_lo (Nat.lt_of_lt_of_le (Nat.lt_of_lt_of_le (Nat.lt_of_lt_of_le (Nat.lt_of_lt_of_le (Nat.lt_of_lt_of_le (Nat.lt_of_lt_of_le (Nat.lt_of_lt_of_le (Nat.lt_of_lt_of_le (Nat.lt_of_lt_of_le (Nat.lt_of_lt_of_le (Nat.lt_of_lt_of_le A199.lt K207.1) K222.1) K243.1) K258.1) K272.1) K286.1) K300.1) K314.1) K328.1) K342.1) E353.1) f377)
             have F467 := ((f381.keep K405 (ninS (Ne.symm ne466) (ninS (Ne.symm ne465) nin0))).keep K419 (ninS (Ne.symm ne466) nin0))
             have KEEP := ((KP390.trans K405 (allS (Or.inr z202) (allS (Or.inr z234) all0))).trans K419 (allS (Or.inr z202) all0))
             exact J1 _ _ _ b170 b199 b353 o373 o374 (9 : Int32) (own_wk X419 (lb rfl) (lb rfl)) rfl N419 KEEP z356 F459 F460 (Or.inl ⟨F461, F467, _, _, F464⟩) F461.lt F464.lt ⟨⟨9, by decide⟩, rfl⟩
           ·
            refine og T405 (mkF m 194 #[vI pi0, vI pi1, vI 9, vI (pi1 &&& (3 : Int32)), vR b170, vR b199, vR b353, vU, vU] [.int 2, (.int (pi1 &&& (3 : Int32)))]) (fun _ k => XS.icmpYes X405.here hx rfl (pc0 := 181) (pc' := 192) rfl (hb hby at_181) rfl (flt hc413).2.2.2 (by decide) (by decide) (XS.iloadN X405.here hx rfl (hb hby at_192) rfl (XS.iconst X405.here hx rfl (hb hby at_193) k))) ?_
            refine og T405 (mkF m 205 #[vI pi0, vI pi1, vI 9, vI (pi1 &&& (3 : Int32)), vR b170, vR b199, vR b353, vU, vU] []) (fun _ k => XS.icmpYes X405.here hx rfl (pc0 := 194) (pc' := 205) rfl (hb hby at_194) rfl (flt (own_nlt (a := (1 : Int32)) (by decide) hc413)).2.2.2 (by decide) (by decide) k) ?_
            have F468 := ((A353.keep K372).keep K405)
            have F469 := (f379.keep K405 (ninS (Ne.symm ne392) (ninS (Ne.symm ne400) nin0)))
            have F470 := (f380.keep K405)
            have ne471 : o223 ≠ o374 := (own_ne_lo (Nat.lt_of_lt_of_le (Nat.lt_of_lt_of_le (Nat.lt_of_lt_of_le (Nat.lt_of_lt_of_le (Nat.lt_of_lt_of_le (Nat.lt_of_lt_of_le (Nat.lt_of_lt_of_le (Nat.lt_of_lt_of_le (Nat.lt_of_lt_of_le f230.lt K243.1) K258.1) K272.1) K286.1) K300.1) K314.1) K328.1) K342.1) E353.1) f378)
            have ne472 : b199 ≠ o374 := (own_ne_lo (Nat.lt_of_lt_of_le (Nat.lt_of_lt_of_le (Nat.lt_of_lt_of_le (Nat.lt_of_lt_of_le (Nat.lt_of_lt_of_le (Nat.lt_of_lt_of_le (Nat.lt_of_lt_of_le (Nat.lt_of_lt_of_le (Nat.lt_of_lt_of_le (Nat.lt_of_lt_of_le (Nat.lt_of_lt_of_le A199.lt K207.1) K222.1) K243.1) K258.1) K272.1) K286.1) K300.1) K314.1) K328.1) K342.1) E353.1) f378)
            have F473 := (f382.keep K405 (ninS (Ne.symm ne472) (ninS (Ne.symm ne471) nin0)))
            have ne474 : o223 ≠ o373 := (own_ne_lo (Nat.lt_of_lt_of_le (Nat.lt_of_lt_of_le (Nat.lt_of_lt_of_le (Nat.lt_of_lt_of_le (Nat.lt_of_lt_of_le (Nat.lt_of_lt_of_le (Nat.lt_of_lt_of_le (Nat.lt_of_lt_of_le (Nat.lt_of_lt_of_le f230.lt K243.1) K258.1) K272.1) K286.1) K300.1) K314.1) K328.1) K342.1) E353.1) f377)
            have ne475 : b199 ≠ o373 := (own_ne_lo (Nat.lt_of_lt_of_le (Nat.lt_of_lt_of_le (Nat.lt_of_lt_of_le (Nat.lt_of_lt_of_le (Nat.lt_of_lt_of_le (Nat.lt_of_lt_of_le (Nat.lt_of_lt_of_le (Nat.lt_of_lt_of_le (Nat.lt_of_lt_of_le (Nat.lt_of_lt_of_le (Nat.lt_of_lt_of_le A199.lt K207.1) K222.1) K243.1) K258.1) K272.1) K286.1) K300.1) K314.1) K328.1) K342.1) E353.1) f377)
            have F476 := (f381.keep K405 (ninS (Ne.symm ne475) (ninS (Ne.symm ne474) nin0)))
            have KEEP := (KP390.trans K405 (allS (Or.inr z202) (allS (Or.inr z234) all0)))
            exact J1 _ _ _ b170 b199 b353 o373 o374 (9 : Int32) (own_wk X405 (lb rfl) (lb rfl)) rfl N405 KEEP z356 F468 F469 (Or.inl ⟨F470, F476, _, _, F473⟩) F470.lt F473.lt ⟨⟨9, by decide⟩, rfl⟩
          ·
           refine og T372 (mkF m 181 #[vI pi0, vI pi1, vI 9, vI (pi1 &&& (3 : Int32)), vR b170, vR b199, vR b353, vU, vU] [.int 1, (.int (pi1 &&& (3 : Int32)))]) (fun _ k => XS.ifYes X372.here hx rfl (pc0 := 168) (pc' := 179) rfl (hb hby at_168) rfl ((if0 _ _).trans (flt hc391).2.2.2) (by decide) (by decide) (XS.iloadN X372.here hx rfl (hb hby at_179) rfl (XS.iconst X372.here hx rfl (hb hby at_180) k))) ?_
           refine og T372 (mkF m 194 #[vI pi0, vI pi1, vI 9, vI (pi1 &&& (3 : Int32)), vR b170, vR b199, vR b353, vU, vU] [.int 2, (.int (pi1 &&& (3 : Int32)))]) (fun _ k => XS.icmpYes X372.here hx rfl (pc0 := 181) (pc' := 192) rfl (hb hby at_181) rfl (flt (own_nlt (a := (0 : Int32)) (by decide) hc391)).2.2.2 (by decide) (by decide) (XS.iloadN X372.here hx rfl (hb hby at_192) rfl (XS.iconst X372.here hx rfl (hb hby at_193) k))) ?_
           refine og T372 (mkF m 205 #[vI pi0, vI pi1, vI 9, vI (pi1 &&& (3 : Int32)), vR b170, vR b199, vR b353, vU, vU] []) (fun _ k => XS.icmpYes X372.here hx rfl (pc0 := 194) (pc' := 205) rfl (hb hby at_194) rfl (flt (own_nlt (a := (1 : Int32)) (by decide) (own_nlt (a := (0 : Int32)) (by decide) hc391))).2.2.2 (by decide) (by decide) k) ?_
           have F477 := (A353.keep K372)
           have KEEP := KP390
           exact J1 _ _ _ b170 b199 b353 o373 o374 (9 : Int32) (own_wk X372 (lb rfl) (lb rfl)) rfl N372 KEEP z356 F477 f379 (Or.inl ⟨f380, f381, _, _, f382⟩) f380.lt f382.lt ⟨⟨9, by decide⟩, rfl⟩
         ·
          have hm : nm = (8 : Int32) := own_eqk hc322 hc336 (by decide)
          rw [hm]
          refine og T328 (mkF m 156 #[vI pi0, vI pi1, vI 8, vI (pi1 &&& (3 : Int32)), vR b170, vR b199, vU, vU, vU] []) (fun _ k => XS.icmpYes X328.here hx rfl (pc0 := 145) (pc' := 156) rfl (hb hby at_145) rfl (flt (by decide : ¬ ((8 : Int32) < (8 : Int32)))).2.2.2 (by decide) (by decide) k) ?_
          have K479 := ((((KP214.trans K222 (allS (Or.inr z202) all0)).trans K243 (allS (Or.inr z202) (allS (Or.inr z234) all0))).trans K258 (allS (Or.inr z202) (allS (Or.inr z234) all0))).trans K272 (allS (Or.inr z202) (allS (Or.inr z234) all0)))
          have K480 := ((((K479.trans K286 (allS (Or.inr z202) (allS (Or.inr z234) all0))).trans K300 (allS (Or.inr z202) (allS (Or.inr z234) all0))).trans K314 (allS (Or.inr z202) (allS (Or.inr z234) all0))).trans K328 (allS (Or.inr z202) (allS (Or.inr z234) all0)))
          have KP478 := K480
          obtain ⟨T481, h481, X481, e481, E481, A481, D481, U481, st481⟩ := newO X328 hx hZ hown (ow hw 1) (ow hw 2) (ow hw 3) rfl (g := (mkF m 156 #[vI pi0, vI pi1, vI 8, vI (pi1 &&& (3 : Int32)), vR b170, vR b199, vU, vU, vU] [])) rfl (hb hby at_156) (lb rfl) (lb rfl)
          obtain ⟨b481, gb481⟩ : ∃ z, z = T328.heap.size := ⟨_, rfl⟩
          rw [← gb481] at A481 D481 U481 st481
          have F483 := (F327.keep K328 (allS g200 (allS g233 all0)))
          have g482 : n0 ≤ b481 := Nat.le_trans (own_osz F483) (Nat.le_of_eq gb481.symm)
          have F485 := (Nat.le_trans (Nat.le_trans (Nat.le_trans (Nat.le_trans F235 K222.1) K243.1) K258.1) K272.1)
          have F486 := (Nat.le_trans (Nat.le_trans (Nat.le_trans (Nat.le_trans F485 K286.1) K300.1) K314.1) K328.1)
          have z484 : h0.size ≤ b481 := Nat.le_trans F486 (Nat.le_of_eq gb481.symm)
          have ch487 := CHr.ext E481 CH335.1
          have CH488 := CHr.trans CH335 ch487
          refine og T481 (mkF m 162 #[vI pi0, vI pi1, vI 8, vI (pi1 &&& (3 : Int32)), vR b170, vR b199, vU, vU, vU] [.ref b199, .ref b481, .ref b481]) (fun _ k => st481 _ (XS.dup X481.here hx rfl (hb hby at_159) rfl rfl (XS.aload X481.here hx rfl (hb hby at_160) rfl rfl k))) ?_
          have F489 := (f329.ext E481)
          have F490 := ((F323.keep K328).ext E481)
          have F491 := (f330.ext E481)
          have F492 := ((F324.keep K328).ext E481)
          have F493 := ((F325.keep K328).ext E481)
          have F494 := ((F326.keep K328 (ninS ne219 (ninS ne255 nin0))).ext E481)
          have F495 := (f333.ext E481)
          have F496 := (f331.ext E481)
          have F497 := (f332.ext E481)
          have F498 := (F483.ext E481)
          obtain ⟨_, T499, L499, X499, hQ499, st499⟩ := own_sc X481 hx hZ rfl hown (ow hw 30) (ow hw 31) (rm5_86 l Z a0 hw b481 b199 o223 kc224 b170 el ee kee em mo h481 n0 F498 EE0 FE0 VE0 A481 (D481 (Or.inr (ow hw 64)) (ty := (.object "java/util/List")) (by decide)) F489 F490 F491 F492 F493 F494 F495 f232 F496 F497 EM0 Mmo SM0 SE0 (own_ne_lo (Nat.lt_of_lt_of_le A199.lt K207.1) f225) g482) (ow hw 32) (ow hw 3) e481 (g := (mkF m 162 #[vI pi0, vI pi1, vI 8, vI (pi1 &&& (3 : Int32)), vR b170, vR b199, vU, vU, vU] [.ref b199, .ref b481, .ref b481])) rfl (zs hml) (argsL := [.ref b199]) (rest := [.ref b481]) (lenOf pd_27 rfl) rfl (hb hby at_162) (W := 1) rfl
          obtain ⟨o500, o501, kc502, vq503, rfl, Nq499, K499, f504, f505, f506, f507, f508, f509⟩ := hQ499
          have N499 := Fr.app N328 Nq499
          have g510 : n0 ≤ o500 := Nat.le_trans (own_osz F498) f504
          have F512 := (Nat.le_trans F486 E481.1)
          have z511 : h0.size ≤ o500 := Nat.le_trans F512 f504
          have g513 : n0 ≤ o501 := Nat.le_trans (own_osz F498) f505
          have z514 : h0.size ≤ o501 := Nat.le_trans F512 f505
          have ch515 := CHr.keep K499 (allS (Safe.exa hZ.alike A481 (by decide) (by decide)) all0) CH488.1
          have CH516 := CHr.trans CH488 ch515
          refine og T499 (mkF m 167 #[vI pi0, vI pi1, vI 8, vI (pi1 &&& (3 : Int32)), vR b170, vR b199, vR b481, vU, vU] []) (fun _ k => st499.trans (XS.astore X499.here hx rfl (hb hby at_165) rfl rfl (l' := #[vI pi0, vI pi1, vI 8, vI (pi1 &&& (3 : Int32)), vR b170, vR b199, vR b481, vU, vU]) rfl k)) ?_
          have KP517 := ((KP478.ext E481).trans K499 (allS (Or.inr z484) all0))
          refine og T499 (mkF m 168 #[vI pi0, vI pi1, vI 8, vI (pi1 &&& (3 : Int32)), vR b170, vR b199, vR b481, vU, vU] [(.int (pi1 &&& (3 : Int32)))]) (fun _ k => XS.iloadN X499.here hx rfl (hb hby at_167) rfl k) ?_
          by_cases hc518 : (0 : Int32) < (pi1 &&& (3 : Int32))
          ·
           refine og T499 (mkF m 175 #[vI pi0, vI pi1, vI 8, vI (pi1 &&& (3 : Int32)), vR b170, vR b199, vR b481, vU, vU] [.ref b170, .ref b199]) (fun _ k => XS.ifNo X499.here hx rfl (hb hby at_168) rfl ((if0 _ _).trans (tlt hc518).2.2.2) (XS.aload X499.here hx rfl (hb hby at_171) rfl rfl (XS.aload X499.here hx rfl (hb hby at_173) rfl rfl k))) ?_
           have ne519 : b199 ≠ b481 := (own_ne_lo (Nat.lt_of_lt_of_le (Nat.lt_of_lt_of_le (Nat.lt_of_lt_of_le (Nat.lt_of_lt_of_le (Nat.lt_of_lt_of_le (Nat.lt_of_lt_of_le (Nat.lt_of_lt_of_le (Nat.lt_of_lt_of_le (Nat.lt_of_lt_of_le A199.lt K207.1) K222.1) K243.1) K258.1) K272.1) K286.1) K300.1) K314.1) K328.1) (Nat.le_of_eq gb481.symm))
           have F520 := (F489.keep K499 (ninS ne519 nin0))
           have F521 := (F490.keep K499)
           have F522 := (F491.keep K499 (ninS ne519 nin0))
           have F523 := (F492.keep K499)
           have F524 := (F493.keep K499)
           have ne525 : b170 ≠ b481 := (own_ne_lo (Nat.lt_of_lt_of_le (Nat.lt_of_lt_of_le (Nat.lt_of_lt_of_le (Nat.lt_of_lt_of_le (Nat.lt_of_lt_of_le (Nat.lt_of_lt_of_le (Nat.lt_of_lt_of_le (Nat.lt_of_lt_of_le (Nat.lt_of_lt_of_le (Nat.lt_of_lt_of_le (Nat.lt_of_lt_of_le (Nat.lt_of_lt_of_le (Nat.lt_of_lt_of_le A170.lt E175.1) K183.1) K194.1) E199.1) K207.1) K222.1) K243.1) K258.1) K272.1) K286.1) K300.1) K314.1) K328.1) (Nat.le_of_eq gb481.symm))
           have F526 := (F494.keep K499 (ninS ne525 nin0))
           have ne527 : o223 ≠ b481 := (own_ne_lo (Nat.lt_of_lt_of_le (Nat.lt_of_lt_of_le (Nat.lt_of_lt_of_le (Nat.lt_of_lt_of_le (Nat.lt_of_lt_of_le (Nat.lt_of_lt_of_le (Nat.lt_of_lt_of_le f230.lt K243.1) K258.1) K272.1) K286.1) K300.1) K314.1) K328.1) (Nat.le_of_eq gb481.symm))
           have F528 := (F495.keep K499 (ninS ne527 nin0))
           have F529 := (F496.keep K499 (ninS ne519 nin0))
           have F530 := (F497.keep K499 (ninS ne519 nin0))
           have F531 := (F498.keep K499 (allS g482 all0))
           obtain ⟨_, T532, L532, X532, hQ532, st532⟩ := own_vc X499 hx hZ hown (ow hw 65) (ow hw 66) (ow hw 68) (ow hw 67) F521 (rm10_70 l Z a0 hw b199 o223 kc224 b170 el ee kee T499.heap n0 F531 EE0 FE0 VE0 F520 F521 F522 F523 F524 F526 F528 f232 F529 F530 g200 ne219 (Ne.symm (own_ne_lo (Nat.lt_of_lt_of_le A199.lt K207.1) f225)) g233) (ow hw 69) (ow hw 6) rfl (g := (mkF m 175 #[vI pi0, vI pi1, vI 8, vI (pi1 &&& (3 : Int32)), vR b170, vR b199, vR b481, vU, vU] [.ref b170, .ref b199])) rfl (zs hml) (argsL := [.ref b170]) (rest := []) (lenOf pd_24 rfl) rfl (hb hby at_175) (W := 0) rfl
           obtain ⟨rfl, Nq532, K532, f533, f534, f535, f536, f537⟩ := hQ532
           have N532 := Fr.app N499 Nq532
           have ch538 := CHr.keep K532 (allS (Safe.exa hZ.alike F521 (by decide) (by decide)) (allS (Safe.exa hZ.alike F523 (by decide) (by decide)) all0)) CH516.1
           have CH539 := CHr.trans CH516 ch538
           refine og T532 (mkF m 181 #[vI pi0, vI pi1, vI 8, vI (pi1 &&& (3 : Int32)), vR b170, vR b199, vR b481, vU, vU] [.int 1, (.int (pi1 &&& (3 : Int32)))]) (fun _ k => st532.trans (XS.pop X532.here hx rfl (hb hby at_178) rfl rfl (XS.iloadN X532.here hx rfl (hb hby at_179) rfl (XS.iconst X532.here hx rfl (hb hby at_180) k)))) ?_
           by_cases hc540 : (1 : Int32) < (pi1 &&& (3 : Int32))
           ·
            refine og T532 (mkF m 188 #[vI pi0, vI pi1, vI 8, vI (pi1 &&& (3 : Int32)), vR b170, vR b199, vR b481, vU, vU] [.ref b170, .ref b199]) (fun _ k => XS.icmpNo X532.here hx rfl (hb hby at_181) rfl (tlt hc540).2.2.2 (XS.aload X532.here hx rfl (hb hby at_184) rfl rfl (XS.aload X532.here hx rfl (hb hby at_186) rfl rfl k))) ?_
            have F541 := (F521.keep K532)
            have F542 := (F523.keep K532)
            have F543 := (F524.keep K532)
            have F544 := (F526.keep K532 (ninS ne219 (ninS ne255 nin0)))
            have F545 := (F531.keep K532 (allS g200 (allS g233 all0)))
            obtain ⟨_, T546, L546, X546, hQ546, st546⟩ := own_vc X532 hx hZ hown (ow hw 65) (ow hw 66) (ow hw 68) (ow hw 67) F541 (rm10_73 l Z a0 hw b199 o223 kc224 b170 el ee kee T532.heap n0 F545 EE0 FE0 VE0 f533 F541 f534 F542 F543 F544 f537 f232 f535 f536 g200 ne219 (Ne.symm (own_ne_lo (Nat.lt_of_lt_of_le A199.lt K207.1) f225)) g233) (ow hw 69) (ow hw 6) rfl (g := (mkF m 188 #[vI pi0, vI pi1, vI 8, vI (pi1 &&& (3 : Int32)), vR b170, vR b199, vR b481, vU, vU] [.ref b170, .ref b199])) rfl (zs hml) (argsL := [.ref b170]) (rest := []) (lenOf pd_24 rfl) rfl (hb hby at_188) (W := 0) rfl
            obtain ⟨rfl, Nq546, K546, f547, f548, f549, f550, f551⟩ := hQ546
            have N546 := Fr.app N532 Nq546
            have ch552 := CHr.keep K546 (allS (Safe.exa hZ.alike F541 (by decide) (by decide)) (allS (Safe.exa hZ.alike F542 (by decide) (by decide)) all0)) CH539.1
            have CH553 := CHr.trans CH539 ch552
            refine og T546 (mkF m 194 #[vI pi0, vI pi1, vI 8, vI (pi1 &&& (3 : Int32)), vR b170, vR b199, vR b481, vU, vU] [.int 2, (.int (pi1 &&& (3 : Int32)))]) (fun _ k => st546.trans (XS.pop X546.here hx rfl (hb hby at_191) rfl rfl (XS.iloadN X546.here hx rfl (hb hby at_192) rfl (XS.iconst X546.here hx rfl (hb hby at_193) k)))) ?_
            by_cases hc554 : (2 : Int32) < (pi1 &&& (3 : Int32))
            ·
             refine og T546 (mkF m 201 #[vI pi0, vI pi1, vI 8, vI (pi1 &&& (3 : Int32)), vR b170, vR b199, vR b481, vU, vU] [.ref b170, .ref b199]) (fun _ k => XS.icmpNo X546.here hx rfl (hb hby at_194) rfl (tlt hc554).2.2.2 (XS.aload X546.here hx rfl (hb hby at_197) rfl rfl (XS.aload X546.here hx rfl (hb hby at_199) rfl rfl k))) ?_
             have F555 := (F541.keep K546)
             have F556 := (F542.keep K546)
             have F557 := (F543.keep K546)
             have F558 := (F544.keep K546 (ninS ne219 (ninS ne255 nin0)))
             have F559 := (F545.keep K546 (allS g200 (allS g233 all0)))
             obtain ⟨_, T560, L560, X560, hQ560, st560⟩ := own_vc X546 hx hZ hown (ow hw 65) (ow hw 66) (ow hw 68) (ow hw 67) F555 (rm10_75 l Z a0 hw b199 o223 kc224 b170 el ee kee mo T546.heap n0 F559 EE0 FE0 VE0 f547 F555 f548 F556 F557 F558 f551 f232 f549 f550 g200 ne219 (Ne.symm (own_ne_lo (Nat.lt_of_lt_of_le A199.lt K207.1) f225)) Mmo) (ow hw 69) (ow hw 6) rfl (g := (mkF m 201 #[vI pi0, vI pi1, vI 8, vI (pi1 &&& (3 : Int32)), vR b170, vR b199, vR b481, vU, vU] [.ref b170, .ref b199])) rfl (zs hml) (argsL := [.ref b170]) (rest := []) (lenOf pd_24 rfl) rfl (hb hby at_201) (W := 0) rfl
             obtain ⟨o561, kc562, rfl, Nq560, K560, f563, f564, f565, f566, f567, f568, f569, f570⟩ := hQ560
             have N560 := Fr.app N546 Nq560
             have g571 : n0 ≤ o561 := Nat.le_trans (own_osz F559) f563
             have F573 := (Nat.le_trans (Nat.le_trans (Nat.le_trans F512 K499.1) K532.1) K546.1)
             have z572 : h0.size ≤ o561 := Nat.le_trans F573 f563
             have ch574 := CHr.keep K560 (allS (Safe.exa hZ.alike F555 (by decide) (by decide)) all0) CH553.1
             have CH575 := CHr.trans CH553 ch574
             refine og T560 (mkF m 205 #[vI pi0, vI pi1, vI 8, vI (pi1 &&& (3 : Int32)), vR b170, vR b199, vR b481, vU, vU] []) (fun _ k => st560.trans (XS.pop X560.here hx rfl (hb hby at_204) rfl rfl k)) ?_
             have F576 := ((((A481.keep K499).keep K532).keep K546).keep K560)
             have F577 := (((f506.keep K532 (ninS (Ne.symm ne519) (ninS (Ne.symm ne527) nin0))).keep K546 (ninS (Ne.symm ne519) (ninS (Ne.symm ne527) nin0))).keep K560 (ninS (Ne.symm ne519) nin0))
             have F578 := (((f507.keep K532).keep K546).keep K560)
             have ne579 : o223 ≠ o501 := (own_ne_lo (Nat.lt_of_lt_of_le (Nat.lt_of_lt_of_le (Nat.lt_of_lt_of_le (Nat.lt_of_lt_of_le (Nat.lt_of_lt_of_le (Nat.lt_of_lt_of_le (Nat.lt_of_lt_of_le (Nat.lt_of_lt_of_le f230.lt K243.1) K258.1) K272.1) K286.1) K300.1) K314.1) K328.1) E481.1) f505)
             have ne580 : b199 ≠ o501 := (own_ne_lo (Nat.lt_of_lt_of_le (Nat.lt_of_lt_of_le (Nat.lt_of_lt_of_le (Nat.lt_of_lt_of_le (Nat.lt_of_lt_of_le (Nat.lt_of_lt_of_le (Nat.lt_of_lt_of_le (Nat.lt_of_lt_of_le (Nat.lt_of_lt_of_le (Nat.lt_of_lt_of_le A199.lt K207.1) K222.1) K243.1) K258.1) K272.1) K286.1) K300.1) K314.1) K328.1) E481.1) f505)
             have F581 := (((f509.keep K532 (ninS (Ne.symm ne580) (ninS (Ne.symm ne579) nin0))).keep K546 (ninS (Ne.symm ne580) (ninS (Ne.symm ne579) nin0))).keep K560 (ninS (Ne.symm ne580) nin0))
             have ne582 : o223 ≠ o500 := (own_ne_lo (Nat.lt_of_lt_of_le (Nat.lt_of_lt_of_le (Nat.lt_of_lt_of_le (Nat.lt_of_lt_of_le (Nat.lt_of_lt_of_le (Nat.lt_of_lt_of_le (Nat.lt_of_lt_of_le (Nat.lt_of_lt_of_le f230.lt K243.1) K258.1) K272.1) K286.1) K300.1) K314.1) K328.1) E481.1) f504)
             have ne583 : b199 ≠ o500 := (own_ne_lo (Nat.lt_of_lt_of_le (Nat.lt_of_lt_of_le (Nat.lt_of_lt_of_le (Nat.lt_of_lt_of_le (Nat.lt_of_lt_of_le (Nat.lt_of_lt_of_le (Nat.lt_of_lt_of_le (Nat.lt_of_lt_of_le (Nat.lt_of_lt_of_le (Nat.lt_of_lt_of_le A199.lt K207.1) K222.1) K243.1) K258.1) K272.1) K286.1) K300.1) K314.1) K328.1) E481.1) f504)
             have F584 := (((f508.keep K532 (ninS (Ne.symm ne583) (ninS (Ne.symm ne582) nin0))).keep K546 (ninS (Ne.symm ne583) (ninS (Ne.symm ne582) nin0))).keep K560 (ninS (Ne.symm ne583) nin0))
             have KEEP := (((KP517.trans K532 (allS (Or.inr z202) (allS (Or.inr z234) all0))).trans K546 (allS (Or.inr z202) (allS (Or.inr z234) all0))).trans K560 (allS (Or.inr z202) all0))
             exact J1 _ _ _ b170 b199 b481 o500 o501 (8 : Int32) (own_wk X560 (lb rfl) (lb rfl)) rfl N560 KEEP z484 F576 F577 (Or.inl ⟨F578, F584, _, _, F581⟩) F578.lt F581.lt ⟨⟨8, by decide⟩, rfl⟩
            ·
             refine og T546 (mkF m 205 #[vI pi0, vI pi1, vI 8, vI (pi1 &&& (3 : Int32)), vR b170, vR b199, vR b481, vU, vU] []) (fun _ k => XS.icmpYes X546.here hx rfl (pc0 := 194) (pc' := 205) rfl (hb hby at_194) rfl (flt hc554).2.2.2 (by decide) (by decide) k) ?_
             have F585 := (((A481.keep K499).keep K532).keep K546)
             have F586 := ((f506.keep K532 (ninS (Ne.symm ne519) (ninS (Ne.symm ne527) nin0))).keep K546 (ninS (Ne.symm ne519) (ninS (Ne.symm ne527) nin0)))
             have F587 := ((f507.keep K532).keep K546)
             have ne588 : o223 ≠ o501 := (own_ne_lo (Nat.lt_of_lt_of_le (Nat.lt_of_lt_of_le (Nat.lt_of_lt_of_le (Nat.lt_of_lt_of_le (Nat.lt_of_lt_of_le (Nat.lt_of_lt_of_le (Nat.lt_of_lt_of_le (Nat.lt_of_lt_of_le f230.lt K243.1) K258.1) K272.1) K286.1) K300.1) K314.1) K328.1) E481.1) f505)
             have ne589 : b199 ≠ o501 := (own_ne_lo (Nat.lt_of_lt_of_le (Nat.lt_of_lt_of_le (Nat.lt_of_lt_of_le (Nat.lt_of_lt_of_le (Nat.lt_of_lt_of_le (Nat.lt_of_lt_of_le (Nat.lt_of_lt_of_le (Nat.lt_of_lt_of_le (Nat.lt_of_lt_of_le (Nat.lt_of_lt_of_le A199.lt K207.1) K222.1) K243.1) K258.1) K272.1) K286.1) K300.1) K314.1) K328.1) E481.1) f505)
             have F590 := ((f509.keep K532 (ninS (Ne.symm ne589) (ninS (Ne.symm ne588) nin0))).keep K546 (ninS (Ne.symm ne589) (ninS (Ne.symm ne588) nin0)))
             have ne591 : o223 ≠ o500 := (own_ne_lo (Nat.lt_of_lt_of_le (Nat.lt_of_lt_of_le (Nat.lt_of_lt_of_le (Nat.lt_of_lt_of_le (Nat.lt_of_lt_of_le (Nat.lt_of_lt_of_le (Nat.lt_of_lt_of_le (Nat.lt_of_lt_of_le f230.lt K243.1) K258.1) K272.1) K286.1) K300.1) K314.1) K328.1) E481.1) f504)
             have ne592 : b199 ≠ o500 := (own_ne_lo (Nat.lt_of_lt_of_le (Nat.lt_of_lt_of_le (Nat.lt_of_lt_of_le (Nat.lt_of_lt_of_le (Nat.lt_of_lt_of_le (Nat.lt_of_lt_of_le (Nat.lt_of_lt_of_le (Nat.lt_of_lt_of_le (Nat.lt_of_lt_of_le (Nat.lt_of_lt_of_le A199.lt K207.1) K222.1) K243.1) K258.1) K272.1) K286.1) K300.1) K314.1) K328.1) E481.1) f504)
             have F593 := ((f508.keep K532 (ninS (Ne.symm ne592) (ninS (Ne.symm ne591) nin0))).keep K546 (ninS (Ne.symm ne592) (ninS (Ne.symm ne591) nin0)))
             have KEEP := ((KP517.trans K532 (allS (Or.inr z202) (allS (Or.inr z234) all0))).trans K546 (allS (Or.inr z202) (allS (Or.inr z234) all0)))
             exact J1 _ _ _ b170 b199 b481 o500 o501 (8 : Int32) (own_wk X546 (lb rfl) (lb rfl)) rfl N546 KEEP z484 F585 F586 (Or.inl ⟨F587, F593, _, _, F590⟩) F587.lt F590.lt ⟨⟨8, by decide⟩, rfl⟩
           ·
            refine og T532 (mkF m 194 #[vI pi0, vI pi1, vI 8, vI (pi1 &&& (3 : Int32)), vR b170, vR b199, vR b481, vU, vU] [.int 2, (.int (pi1 &&& (3 : Int32)))]) (fun _ k => XS.icmpYes X532.here hx rfl (pc0 := 181) (pc' := 192) rfl (hb hby at_181) rfl (flt hc540).2.2.2 (by decide) (by decide) (XS.iloadN X532.here hx rfl (hb hby at_192) rfl (XS.iconst X532.here hx rfl (hb hby at_193) k))) ?_
            refine og T532 (mkF m 205 #[vI pi0, vI pi1, vI 8, vI (pi1 &&& (3 : Int32)), vR b170, vR b199, vR b481, vU, vU] []) (fun _ k => XS.icmpYes X532.here hx rfl (pc0 := 194) (pc' := 205) rfl (hb hby at_194) rfl (flt (own_nlt (a := (1 : Int32)) (by decide) hc540)).2.2.2 (by decide) (by decide) k) ?_
            have F594 := ((A481.keep K499).keep K532)
            have F595 := (f506.keep K532 (ninS (Ne.symm ne519) (ninS (Ne.symm ne527) nin0)))
            have F596 := (f507.keep K532)
            have ne597 : o223 ≠ o501 := (own_ne_lo (Nat.lt_of_lt_of_le (Nat.lt_of_lt_of_le (Nat.lt_of_lt_of_le (Nat.lt_of_lt_of_le (Nat.lt_of_lt_of_le (Nat.lt_of_lt_of_le (Nat.lt_of_lt_of_le (Nat.lt_of_lt_of_le f230.lt K243.1) K258.1) K272.1) K286.1) K300.1) K314.1) K328.1) E481.1) f505)
            have ne598 : b199 ≠ o501 := (own_ne_lo (Nat.lt_of_lt_of_le (Nat.lt_of_lt_of_le (Nat.lt_of_lt_of_le (Nat.lt_of_lt_of_le (Nat.lt_of_lt_of_le (Nat.lt_of_lt_of_le (Nat.lt_of_lt_of_le (Nat.lt_of_lt_of_le (Nat.lt_of_lt_of_le (Nat.lt_of_lt_of_le A199.lt K207.1) K222.1) K243.1) K258.1) K272.1) K286.1) K300.1) K314.1) K328.1) E481.1) f505)
            have F599 := (f509.keep K532 (ninS (Ne.symm ne598) (ninS (Ne.symm ne597) nin0)))
            have ne600 : o223 ≠ o500 := (own_ne_lo (Nat.lt_of_lt_of_le (Nat.lt_of_lt_of_le (Nat.lt_of_lt_of_le (Nat.lt_of_lt_of_le (Nat.lt_of_lt_of_le (Nat.lt_of_lt_of_le (Nat.lt_of_lt_of_le (Nat.lt_of_lt_of_le f230.lt K243.1) K258.1) K272.1) K286.1) K300.1) K314.1) K328.1) E481.1) f504)
            have ne601 : b199 ≠ o500 := (own_ne_lo (Nat.lt_of_lt_of_le (Nat.lt_of_lt_of_le (Nat.lt_of_lt_of_le (Nat.lt_of_lt_of_le (Nat.lt_of_lt_of_le (Nat.lt_of_lt_of_le (Nat.lt_of_lt_of_le (Nat.lt_of_lt_of_le (Nat.lt_of_lt_of_le (Nat.lt_of_lt_of_le A199.lt K207.1) K222.1) K243.1) K258.1) K272.1) K286.1) K300.1) K314.1) K328.1) E481.1) f504)
            have F602 := (f508.keep K532 (ninS (Ne.symm ne601) (ninS (Ne.symm ne600) nin0)))
            have KEEP := (KP517.trans K532 (allS (Or.inr z202) (allS (Or.inr z234) all0)))
            exact J1 _ _ _ b170 b199 b481 o500 o501 (8 : Int32) (own_wk X532 (lb rfl) (lb rfl)) rfl N532 KEEP z484 F594 F595 (Or.inl ⟨F596, F602, _, _, F599⟩) F596.lt F599.lt ⟨⟨8, by decide⟩, rfl⟩
          ·
           refine og T499 (mkF m 181 #[vI pi0, vI pi1, vI 8, vI (pi1 &&& (3 : Int32)), vR b170, vR b199, vR b481, vU, vU] [.int 1, (.int (pi1 &&& (3 : Int32)))]) (fun _ k => XS.ifYes X499.here hx rfl (pc0 := 168) (pc' := 179) rfl (hb hby at_168) rfl ((if0 _ _).trans (flt hc518).2.2.2) (by decide) (by decide) (XS.iloadN X499.here hx rfl (hb hby at_179) rfl (XS.iconst X499.here hx rfl (hb hby at_180) k))) ?_
           refine og T499 (mkF m 194 #[vI pi0, vI pi1, vI 8, vI (pi1 &&& (3 : Int32)), vR b170, vR b199, vR b481, vU, vU] [.int 2, (.int (pi1 &&& (3 : Int32)))]) (fun _ k => XS.icmpYes X499.here hx rfl (pc0 := 181) (pc' := 192) rfl (hb hby at_181) rfl (flt (own_nlt (a := (0 : Int32)) (by decide) hc518)).2.2.2 (by decide) (by decide) (XS.iloadN X499.here hx rfl (hb hby at_192) rfl (XS.iconst X499.here hx rfl (hb hby at_193) k))) ?_
           refine og T499 (mkF m 205 #[vI pi0, vI pi1, vI 8, vI (pi1 &&& (3 : Int32)), vR b170, vR b199, vR b481, vU, vU] []) (fun _ k => XS.icmpYes X499.here hx rfl (pc0 := 194) (pc' := 205) rfl (hb hby at_194) rfl (flt (own_nlt (a := (1 : Int32)) (by decide) (own_nlt (a := (0 : Int32)) (by decide) hc518))).2.2.2 (by decide) (by decide) k) ?_
           have F603 := (A481.keep K499)
           have KEEP := KP517
           exact J1 _ _ _ b170 b199 b481 o500 o501 (8 : Int32) (own_wk X499 (lb rfl) (lb rfl)) rfl N499 KEEP z484 F603 f506 (Or.inl ⟨f507, f508, _, _, f509⟩) f507.lt f509.lt ⟨⟨8, by decide⟩, rfl⟩
        ·
         have hm : nm = (7 : Int32) := own_eqk hc308 hc322 (by decide)
         rw [hm]
         refine og T314 (mkF m 156 #[vI pi0, vI pi1, vI 7, vI (pi1 &&& (3 : Int32)), vR b170, vR b199, vU, vU, vU] []) (fun _ k => XS.icmpYes X314.here hx rfl (pc0 := 131) (pc' := 142) rfl (hb hby at_131) rfl (flt (by decide : ¬ ((7 : Int32) < (7 : Int32)))).2.2.2 (by decide) (by decide) (XS.iloadN X314.here hx rfl (hb hby at_142) rfl (XS.bipush X314.here hx rfl (hb hby at_143) (XS.icmpYes X314.here hx rfl (pc0 := 145) (pc' := 156) rfl (hb hby at_145) rfl (flt (by decide : ¬ ((8 : Int32) < (7 : Int32)))).2.2.2 (by decide) (by decide) k)))) ?_
         have K605 := ((((KP214.trans K222 (allS (Or.inr z202) all0)).trans K243 (allS (Or.inr z202) (allS (Or.inr z234) all0))).trans K258 (allS (Or.inr z202) (allS (Or.inr z234) all0))).trans K272 (allS (Or.inr z202) (allS (Or.inr z234) all0)))
         have KP604 := (((K605.trans K286 (allS (Or.inr z202) (allS (Or.inr z234) all0))).trans K300 (allS (Or.inr z202) (allS (Or.inr z234) all0))).trans K314 (allS (Or.inr z202) (allS (Or.inr z234) all0)))
         obtain ⟨T606, h606, X606, e606, E606, A606, D606, U606, st606⟩ := newO X314 hx hZ hown (ow hw 1) (ow hw 2) (ow hw 3) rfl (g := (mkF m 156 #[vI pi0, vI pi1, vI 7, vI (pi1 &&& (3 : Int32)), vR b170, vR b199, vU, vU, vU] [])) rfl (hb hby at_156) (lb rfl) (lb rfl)
         obtain ⟨b606, gb606⟩ : ∃ z, z = T314.heap.size := ⟨_, rfl⟩
         rw [← gb606] at A606 D606 U606 st606
         have F608 := (F313.keep K314 (allS g200 (allS g233 all0)))
         have g607 : n0 ≤ b606 := Nat.le_trans (own_osz F608) (Nat.le_of_eq gb606.symm)
         have F610 := (Nat.le_trans (Nat.le_trans (Nat.le_trans (Nat.le_trans F235 K222.1) K243.1) K258.1) K272.1)
         have F611 := (Nat.le_trans (Nat.le_trans (Nat.le_trans F610 K286.1) K300.1) K314.1)
         have z609 : h0.size ≤ b606 := Nat.le_trans F611 (Nat.le_of_eq gb606.symm)
         have ch612 := CHr.ext E606 CH321.1
         have CH613 := CHr.trans CH321 ch612
         refine og T606 (mkF m 162 #[vI pi0, vI pi1, vI 7, vI (pi1 &&& (3 : Int32)), vR b170, vR b199, vU, vU, vU] [.ref b199, .ref b606, .ref b606]) (fun _ k => st606 _ (XS.dup X606.here hx rfl (hb hby at_159) rfl rfl (XS.aload X606.here hx rfl (hb hby at_160) rfl rfl k))) ?_
         have F614 := (f315.ext E606)
         have F615 := ((F309.keep K314).ext E606)
         have F616 := (f316.ext E606)
         have F617 := ((F310.keep K314).ext E606)
         have F618 := ((F311.keep K314).ext E606)
         have F619 := ((F312.keep K314 (ninS ne219 (ninS ne255 nin0))).ext E606)
         have F620 := (f319.ext E606)
         have F621 := (f317.ext E606)
         have F622 := (f318.ext E606)
         have F623 := (F608.ext E606)
         obtain ⟨_, T624, L624, X624, hQ624, st624⟩ := own_sc X606 hx hZ rfl hown (ow hw 30) (ow hw 31) (rm5_87 l Z a0 hw b606 b199 o223 kc224 b170 el ee kee em mo h606 n0 F623 EE0 FE0 VE0 A606 (D606 (Or.inr (ow hw 64)) (ty := (.object "java/util/List")) (by decide)) F614 F615 F616 F617 F618 F619 F620 f232 F621 F622 EM0 Mmo SM0 SE0 (own_ne_lo (Nat.lt_of_lt_of_le A199.lt K207.1) f225) g607) (ow hw 32) (ow hw 3) e606 (g := (mkF m 162 #[vI pi0, vI pi1, vI 7, vI (pi1 &&& (3 : Int32)), vR b170, vR b199, vU, vU, vU] [.ref b199, .ref b606, .ref b606])) rfl (zs hml) (argsL := [.ref b199]) (rest := [.ref b606]) (lenOf pd_27 rfl) rfl (hb hby at_162) (W := 1) rfl
         obtain ⟨o625, o626, kc627, vq628, rfl, Nq624, K624, f629, f630, f631, f632, f633, f634⟩ := hQ624
         have N624 := Fr.app N314 Nq624
         have g635 : n0 ≤ o625 := Nat.le_trans (own_osz F623) f629
         have F637 := (Nat.le_trans F611 E606.1)
         have z636 : h0.size ≤ o625 := Nat.le_trans F637 f629
         have g638 : n0 ≤ o626 := Nat.le_trans (own_osz F623) f630
         have z639 : h0.size ≤ o626 := Nat.le_trans F637 f630
         have ch640 := CHr.keep K624 (allS (Safe.exa hZ.alike A606 (by decide) (by decide)) all0) CH613.1
         have CH641 := CHr.trans CH613 ch640
         refine og T624 (mkF m 167 #[vI pi0, vI pi1, vI 7, vI (pi1 &&& (3 : Int32)), vR b170, vR b199, vR b606, vU, vU] []) (fun _ k => st624.trans (XS.astore X624.here hx rfl (hb hby at_165) rfl rfl (l' := #[vI pi0, vI pi1, vI 7, vI (pi1 &&& (3 : Int32)), vR b170, vR b199, vR b606, vU, vU]) rfl k)) ?_
         have KP642 := ((KP604.ext E606).trans K624 (allS (Or.inr z609) all0))
         refine og T624 (mkF m 168 #[vI pi0, vI pi1, vI 7, vI (pi1 &&& (3 : Int32)), vR b170, vR b199, vR b606, vU, vU] [(.int (pi1 &&& (3 : Int32)))]) (fun _ k => XS.iloadN X624.here hx rfl (hb hby at_167) rfl k) ?_
         by_cases hc643 : (0 : Int32) < (pi1 &&& (3 : Int32))
         ·
          refine og T624 (mkF m 175 #[vI pi0, vI pi1, vI 7, vI (pi1 &&& (3 : Int32)), vR b170, vR b199, vR b606, vU, vU] [.ref b170, .ref b199]) (fun _ k => XS.ifNo X624.here hx rfl (hb hby at_168) rfl ((if0 _ _).trans (tlt hc643).2.2.2) (XS.aload X624.here hx rfl (hb hby at_171) rfl rfl (XS.aload X624.here hx rfl (hb hby at_173) rfl rfl k))) ?_
          have ne644 : b199 ≠ b606 := (own_ne_lo (Nat.lt_of_lt_of_le (Nat.lt_of_lt_of_le (Nat.lt_of_lt_of_le (Nat.lt_of_lt_of_le (Nat.lt_of_lt_of_le (Nat.lt_of_lt_of_le (Nat.lt_of_lt_of_le (Nat.lt_of_lt_of_le A199.lt K207.1) K222.1) K243.1) K258.1) K272.1) K286.1) K300.1) K314.1) (Nat.le_of_eq gb606.symm))
          have F645 := (F614.keep K624 (ninS ne644 nin0))
          have F646 := (F615.keep K624)
          have F647 := (F616.keep K624 (ninS ne644 nin0))
          have F648 := (F617.keep K624)
          have F649 := (F618.keep K624)
          have ne650 : b170 ≠ b606 := (own_ne_lo (Nat.lt_of_lt_of_le (Nat.lt_of_lt_of_le (Nat.lt_of_lt_of_le (Nat.lt_of_lt_of_le (Nat.lt_of_lt_of_le (Nat.lt_of_lt_of_le (Nat.lt_of_lt_of_le (Nat.lt_of_lt_of_le (Nat.lt_of_lt_of_le (Nat.lt_of_lt_of_le (Nat.lt_of_lt_of_le (Nat.lt_of_lt_of_le A170.lt E175.1) K183.1) K194.1) E199.1) K207.1) K222.1) K243.1) K258.1) K272.1) K286.1) K300.1) K314.1) (Nat.le_of_eq gb606.symm))
          have F651 := (F619.keep K624 (ninS ne650 nin0))
          have ne652 : o223 ≠ b606 := (own_ne_lo (Nat.lt_of_lt_of_le (Nat.lt_of_lt_of_le (Nat.lt_of_lt_of_le (Nat.lt_of_lt_of_le (Nat.lt_of_lt_of_le (Nat.lt_of_lt_of_le f230.lt K243.1) K258.1) K272.1) K286.1) K300.1) K314.1) (Nat.le_of_eq gb606.symm))
          have F653 := (F620.keep K624 (ninS ne652 nin0))
          have F654 := (F621.keep K624 (ninS ne644 nin0))
          have F655 := (F622.keep K624 (ninS ne644 nin0))
          have F656 := (F623.keep K624 (allS g607 all0))
          obtain ⟨_, T657, L657, X657, hQ657, st657⟩ := own_vc X624 hx hZ hown (ow hw 65) (ow hw 66) (ow hw 68) (ow hw 67) F646 (rm10_68 l Z a0 hw b199 o223 kc224 b170 el ee kee T624.heap n0 F656 EE0 FE0 VE0 F645 F646 F647 F648 F649 F651 F653 f232 F654 F655 g200 ne219 (Ne.symm (own_ne_lo (Nat.lt_of_lt_of_le A199.lt K207.1) f225)) g233) (ow hw 69) (ow hw 6) rfl (g := (mkF m 175 #[vI pi0, vI pi1, vI 7, vI (pi1 &&& (3 : Int32)), vR b170, vR b199, vR b606, vU, vU] [.ref b170, .ref b199])) rfl (zs hml) (argsL := [.ref b170]) (rest := []) (lenOf pd_24 rfl) rfl (hb hby at_175) (W := 0) rfl
          obtain ⟨rfl, Nq657, K657, f658, f659, f660, f661, f662⟩ := hQ657
          have N657 := Fr.app N624 Nq657
          have ch663 := CHr.keep K657 (allS (Safe.exa hZ.alike F646 (by decide) (by decide)) (allS (Safe.exa hZ.alike F648 (by decide) (by decide)) all0)) CH641.1
          have CH664 := CHr.trans CH641 ch663
          refine og T657 (mkF m 181 #[vI pi0, vI pi1, vI 7, vI (pi1 &&& (3 : Int32)), vR b170, vR b199, vR b606, vU, vU] [.int 1, (.int (pi1 &&& (3 : Int32)))]) (fun _ k => st657.trans (XS.pop X657.here hx rfl (hb hby at_178) rfl rfl (XS.iloadN X657.here hx rfl (hb hby at_179) rfl (XS.iconst X657.here hx rfl (hb hby at_180) k)))) ?_
          by_cases hc665 : (1 : Int32) < (pi1 &&& (3 : Int32))
          ·
           refine og T657 (mkF m 188 #[vI pi0, vI pi1, vI 7, vI (pi1 &&& (3 : Int32)), vR b170, vR b199, vR b606, vU, vU] [.ref b170, .ref b199]) (fun _ k => XS.icmpNo X657.here hx rfl (hb hby at_181) rfl (tlt hc665).2.2.2 (XS.aload X657.here hx rfl (hb hby at_184) rfl rfl (XS.aload X657.here hx rfl (hb hby at_186) rfl rfl k))) ?_
           have F666 := (F646.keep K657)
           have F667 := (F648.keep K657)
           have F668 := (F649.keep K657)
           have F669 := (F651.keep K657 (ninS ne219 (ninS ne255 nin0)))
           have F670 := (F656.keep K657 (allS g200 (allS g233 all0)))
           obtain ⟨_, T671, L671, X671, hQ671, st671⟩ := own_vc X657 hx hZ hown (ow hw 65) (ow hw 66) (ow hw 68) (ow hw 67) F666 (rm10_70 l Z a0 hw b199 o223 kc224 b170 el ee kee T657.heap n0 F670 EE0 FE0 VE0 f658 F666 f659 F667 F668 F669 f662 f232 f660 f661 g200 ne219 (Ne.symm (own_ne_lo (Nat.lt_of_lt_of_le A199.lt K207.1) f225)) g233) (ow hw 69) (ow hw 6) rfl (g := (mkF m 188 #[vI pi0, vI pi1, vI 7, vI (pi1 &&& (3 : Int32)), vR b170, vR b199, vR b606, vU, vU] [.ref b170, .ref b199])) rfl (zs hml) (argsL := [.ref b170]) (rest := []) (lenOf pd_24 rfl) rfl (hb hby at_188) (W := 0) rfl
           obtain ⟨rfl, Nq671, K671, f672, f673, f674, f675, f676⟩ := hQ671
           have N671 := Fr.app N657 Nq671
           have ch677 := CHr.keep K671 (allS (Safe.exa hZ.alike F666 (by decide) (by decide)) (allS (Safe.exa hZ.alike F667 (by decide) (by decide)) all0)) CH664.1
           have CH678 := CHr.trans CH664 ch677
           refine og T671 (mkF m 194 #[vI pi0, vI pi1, vI 7, vI (pi1 &&& (3 : Int32)), vR b170, vR b199, vR b606, vU, vU] [.int 2, (.int (pi1 &&& (3 : Int32)))]) (fun _ k => st671.trans (XS.pop X671.here hx rfl (hb hby at_191) rfl rfl (XS.iloadN X671.here hx rfl (hb hby at_192) rfl (XS.iconst X671.here hx rfl (hb hby at_193) k)))) ?_
           by_cases hc679 : (2 : Int32) < (pi1 &&& (3 : Int32))
           ·
            refine og T671 (mkF m 201 #[vI pi0, vI pi1, vI 7, vI (pi1 &&& (3 : Int32)), vR b170, vR b199, vR b606, vU, vU] [.ref b170, .ref b199]) (fun _ k => XS.icmpNo X671.here hx rfl (hb hby at_194) rfl (tlt hc679).2.2.2 (XS.aload X671.here hx rfl (hb hby at_197) rfl rfl (XS.aload X671.here hx rfl (hb hby at_199) rfl rfl k))) ?_
            have F680 := (F666.keep K671)
            have F681 := (F667.keep K671)
            have F682 := (F668.keep K671)
            have F683 := (F669.keep K671 (ninS ne219 (ninS ne255 nin0)))
            have F684 := (F670.keep K671 (allS g200 (allS g233 all0)))
            obtain ⟨_, T685, L685, X685, hQ685, st685⟩ := own_vc X671 hx hZ hown (ow hw 65) (ow hw 66) (ow hw 68) (ow hw 67) F680 (rm10_73 l Z a0 hw b199 o223 kc224 b170 el ee kee T671.heap n0 F684 EE0 FE0 VE0 f672 F680 f673 F681 F682 F683 f676 f232 f674 f675 g200 ne219 (Ne.symm (own_ne_lo (Nat.lt_of_lt_of_le A199.lt K207.1) f225)) g233) (ow hw 69) (ow hw 6) rfl (g := (mkF m 201 #[vI pi0, vI pi1, vI 7, vI (pi1 &&& (3 : Int32)), vR b170, vR b199, vR b606, vU, vU] [.ref b170, .ref b199])) rfl (zs hml) (argsL := [.ref b170]) (rest := []) (lenOf pd_24 rfl) rfl (hb hby at_201) (W := 0) rfl
            obtain ⟨rfl, Nq685, K685, f686, f687, f688, f689, f690⟩ := hQ685
            have N685 := Fr.app N671 Nq685
            have ch691 := CHr.keep K685 (allS (Safe.exa hZ.alike F680 (by decide) (by decide)) (allS (Safe.exa hZ.alike F681 (by decide) (by decide)) all0)) CH678.1
            have CH692 := CHr.trans CH678 ch691
            refine og T685 (mkF m 205 #[vI pi0, vI pi1, vI 7, vI (pi1 &&& (3 : Int32)), vR b170, vR b199, vR b606, vU, vU] []) (fun _ k => st685.trans (XS.pop X685.here hx rfl (hb hby at_204) rfl rfl k)) ?_
            have F693 := ((((A606.keep K624).keep K657).keep K671).keep K685)
            have F694 := (((f631.keep K657 (ninS (Ne.symm ne644) (ninS (Ne.symm ne652) nin0))).keep K671 (ninS (Ne.symm ne644) (ninS (Ne.symm ne652) nin0))).keep K685 (ninS (Ne.symm ne644) (ninS (Ne.symm ne652) nin0)))
            have F695 := (((f632.keep K657).keep K671).keep K685)
            have ne696 : o223 ≠ o626 := (own_ne_lo (Nat.lt_of_lt_of_le (Nat.lt_of_lt_of_le (Nat.lt_of_lt_of_le (Nat.lt_of_lt_of_le (Nat.lt_of_lt_of_le (Nat.lt_of_lt_of_le (Nat.lt_of_lt_of_le f230.lt K243.1) K258.1) K272.1) K286.1) K300.1) K314.1) E606.1) f630)
            have ne697 : b199 ≠ o626 := (own_ne_lo (Nat.lt_of_lt_of_le (Nat.lt_of_lt_of_le (Nat.lt_of_lt_of_le (Nat.lt_of_lt_of_le (Nat.lt_of_lt_of_le (Nat.lt_of_lt_of_le (Nat.lt_of_lt_of_le (Nat.lt_of_lt_of_le (Nat.lt_of_lt_of_le A199.lt K207.1) K222.1) K243.1) K258.1) K272.1) K286.1) K300.1) K314.1) E606.1) f630)
            have F698 := (((f634.keep K657 (ninS (Ne.symm ne697) (ninS (Ne.symm ne696) nin0))).keep K671 (ninS (Ne.symm ne697) (ninS (Ne.symm ne696) nin0))).keep K685 (ninS (Ne.symm ne697) (ninS (Ne.symm ne696) nin0)))
            have ne699 : o223 ≠ o625 := (own_ne_lo (Nat.lt_of_lt_of_le (Nat.lt_of_lt_of_le (Nat.lt_of_lt_of_le (Nat.lt_of_lt_of_le (Nat.lt_of_lt_of_le (Nat.lt_of_lt_of_le (Nat.lt_of_lt_of_le f230.lt K243.1) K258.1) K272.1) K286.1) K300.1) K314.1) E606.1) f629)
            have ne700 : b199 ≠ o625 := (own_ne_lo (Nat.lt_of_lt_of_le (Nat.lt_of_lt_of_le (Nat.lt_of_lt_of_le (Nat.lt_of_lt_of_le (Nat.lt_of_lt_of_le (Nat.lt_of_lt_of_le (Nat.lt_of_lt_of_le (Nat.lt_of_lt_of_le (Nat.lt_of_lt_of_le A199.lt K207.1) K222.1) K243.1) K258.1) K272.1) K286.1) K300.1) K314.1) E606.1) f629)
            have F701 := (((f633.keep K657 (ninS (Ne.symm ne700) (ninS (Ne.symm ne699) nin0))).keep K671 (ninS (Ne.symm ne700) (ninS (Ne.symm ne699) nin0))).keep K685 (ninS (Ne.symm ne700) (ninS (Ne.symm ne699) nin0)))
            have KEEP := (((KP642.trans K657 (allS (Or.inr z202) (allS (Or.inr z234) all0))).trans K671 (allS (Or.inr z202) (allS (Or.inr z234) all0))).trans K685 (allS (Or.inr z202) (allS (Or.inr z234) all0)))
            exact J1 _ _ _ b170 b199 b606 o625 o626 (7 : Int32) (own_wk X685 (lb rfl) (lb rfl)) rfl N685 KEEP z609 F693 F694 (Or.inl ⟨F695, F701, _, _, F698⟩) F695.lt F698.lt ⟨⟨7, by decide⟩, rfl⟩
           ·
            refine og T671 (mkF m 205 #[vI pi0, vI pi1, vI 7, vI (pi1 &&& (3 : Int32)), vR b170, vR b199, vR b606, vU, vU] []) (fun _ k => XS.icmpYes X671.here hx rfl (pc0 := 194) (pc' := 205) rfl (hb hby at_194) rfl (flt hc679).2.2.2 (by decide) (by decide) k) ?_
            have F702 := (((A606.keep K624).keep K657).keep K671)
            have F703 := ((f631.keep K657 (ninS (Ne.symm ne644) (ninS (Ne.symm ne652) nin0))).keep K671 (ninS (Ne.symm ne644) (ninS (Ne.symm ne652) nin0)))
            have F704 := ((f632.keep K657).keep K671)
            have ne705 : o223 ≠ o626 := (own_ne_lo (Nat.lt_of_lt_of_le (Nat.lt_of_lt_of_le (Nat.lt_of_lt_of_le (Nat.lt_of_lt_of_le (Nat.lt_of_lt_of_le (Nat.lt_of_lt_of_le (Nat.lt_of_lt_of_le f230.lt K243.1) K258.1) K272.1) K286.1) K300.1) K314.1) E606.1) f630)
            have ne706 : b199 ≠ o626 := (own_ne_lo (Nat.lt_of_lt_of_le (Nat.lt_of_lt_of_le (Nat.lt_of_lt_of_le (Nat.lt_of_lt_of_le (Nat.lt_of_lt_of_le (Nat.lt_of_lt_of_le (Nat.lt_of_lt_of_le (Nat.lt_of_lt_of_le (Nat.lt_of_lt_of_le A199.lt K207.1) K222.1) K243.1) K258.1) K272.1) K286.1) K300.1) K314.1) E606.1) f630)
            have F707 := ((f634.keep K657 (ninS (Ne.symm ne706) (ninS (Ne.symm ne705) nin0))).keep K671 (ninS (Ne.symm ne706) (ninS (Ne.symm ne705) nin0)))
            have ne708 : o223 ≠ o625 := (own_ne_lo (Nat.lt_of_lt_of_le (Nat.lt_of_lt_of_le (Nat.lt_of_lt_of_le (Nat.lt_of_lt_of_le (Nat.lt_of_lt_of_le (Nat.lt_of_lt_of_le (Nat.lt_of_lt_of_le f230.lt K243.1) K258.1) K272.1) K286.1) K300.1) K314.1) E606.1) f629)
            have ne709 : b199 ≠ o625 := (own_ne_lo (Nat.lt_of_lt_of_le (Nat.lt_of_lt_of_le (Nat.lt_of_lt_of_le (Nat.lt_of_lt_of_le (Nat.lt_of_lt_of_le (Nat.lt_of_lt_of_le (Nat.lt_of_lt_of_le (Nat.lt_of_lt_of_le (Nat.lt_of_lt_of_le A199.lt K207.1) K222.1) K243.1) K258.1) K272.1) K286.1) K300.1) K314.1) E606.1) f629)
            have F710 := ((f633.keep K657 (ninS (Ne.symm ne709) (ninS (Ne.symm ne708) nin0))).keep K671 (ninS (Ne.symm ne709) (ninS (Ne.symm ne708) nin0)))
            have KEEP := ((KP642.trans K657 (allS (Or.inr z202) (allS (Or.inr z234) all0))).trans K671 (allS (Or.inr z202) (allS (Or.inr z234) all0)))
            exact J1 _ _ _ b170 b199 b606 o625 o626 (7 : Int32) (own_wk X671 (lb rfl) (lb rfl)) rfl N671 KEEP z609 F702 F703 (Or.inl ⟨F704, F710, _, _, F707⟩) F704.lt F707.lt ⟨⟨7, by decide⟩, rfl⟩
          ·
           refine og T657 (mkF m 194 #[vI pi0, vI pi1, vI 7, vI (pi1 &&& (3 : Int32)), vR b170, vR b199, vR b606, vU, vU] [.int 2, (.int (pi1 &&& (3 : Int32)))]) (fun _ k => XS.icmpYes X657.here hx rfl (pc0 := 181) (pc' := 192) rfl (hb hby at_181) rfl (flt hc665).2.2.2 (by decide) (by decide) (XS.iloadN X657.here hx rfl (hb hby at_192) rfl (XS.iconst X657.here hx rfl (hb hby at_193) k))) ?_
           refine og T657 (mkF m 205 #[vI pi0, vI pi1, vI 7, vI (pi1 &&& (3 : Int32)), vR b170, vR b199, vR b606, vU, vU] []) (fun _ k => XS.icmpYes X657.here hx rfl (pc0 := 194) (pc' := 205) rfl (hb hby at_194) rfl (flt (own_nlt (a := (1 : Int32)) (by decide) hc665)).2.2.2 (by decide) (by decide) k) ?_
           have F711 := ((A606.keep K624).keep K657)
           have F712 := (f631.keep K657 (ninS (Ne.symm ne644) (ninS (Ne.symm ne652) nin0)))
           have F713 := (f632.keep K657)
           have ne714 : o223 ≠ o626 := (own_ne_lo (Nat.lt_of_lt_of_le (Nat.lt_of_lt_of_le (Nat.lt_of_lt_of_le (Nat.lt_of_lt_of_le (Nat.lt_of_lt_of_le (Nat.lt_of_lt_of_le (Nat.lt_of_lt_of_le f230.lt K243.1) K258.1) K272.1) K286.1) K300.1) K314.1) E606.1) f630)
           have ne715 : b199 ≠ o626 := (own_ne_lo (Nat.lt_of_lt_of_le (Nat.lt_of_lt_of_le (Nat.lt_of_lt_of_le (Nat.lt_of_lt_of_le (Nat.lt_of_lt_of_le (Nat.lt_of_lt_of_le (Nat.lt_of_lt_of_le (Nat.lt_of_lt_of_le (Nat.lt_of_lt_of_le A199.lt K207.1) K222.1) K243.1) K258.1) K272.1) K286.1) K300.1) K314.1) E606.1) f630)
           have F716 := (f634.keep K657 (ninS (Ne.symm ne715) (ninS (Ne.symm ne714) nin0)))
           have ne717 : o223 ≠ o625 := (own_ne_lo (Nat.lt_of_lt_of_le (Nat.lt_of_lt_of_le (Nat.lt_of_lt_of_le (Nat.lt_of_lt_of_le (Nat.lt_of_lt_of_le (Nat.lt_of_lt_of_le (Nat.lt_of_lt_of_le f230.lt K243.1) K258.1) K272.1) K286.1) K300.1) K314.1) E606.1) f629)
           have ne718 : b199 ≠ o625 := (own_ne_lo (Nat.lt_of_lt_of_le (Nat.lt_of_lt_of_le (Nat.lt_of_lt_of_le (Nat.lt_of_lt_of_le (Nat.lt_of_lt_of_le (Nat.lt_of_lt_of_le (Nat.lt_of_lt_of_le (Nat.lt_of_lt_of_le (Nat.lt_of_lt_of_le A199.lt K207.1) K222.1) K243.1) K258.1) K272.1) K286.1) K300.1) K314.1) E606.1) f629)
           have F719 := (f633.keep K657 (ninS (Ne.symm ne718) (ninS (Ne.symm ne717) nin0)))
           have KEEP := (KP642.trans K657 (allS (Or.inr z202) (allS (Or.inr z234) all0)))
           exact J1 _ _ _ b170 b199 b606 o625 o626 (7 : Int32) (own_wk X657 (lb rfl) (lb rfl)) rfl N657 KEEP z609 F711 F712 (Or.inl ⟨F713, F719, _, _, F716⟩) F713.lt F716.lt ⟨⟨7, by decide⟩, rfl⟩
         ·
          refine og T624 (mkF m 181 #[vI pi0, vI pi1, vI 7, vI (pi1 &&& (3 : Int32)), vR b170, vR b199, vR b606, vU, vU] [.int 1, (.int (pi1 &&& (3 : Int32)))]) (fun _ k => XS.ifYes X624.here hx rfl (pc0 := 168) (pc' := 179) rfl (hb hby at_168) rfl ((if0 _ _).trans (flt hc643).2.2.2) (by decide) (by decide) (XS.iloadN X624.here hx rfl (hb hby at_179) rfl (XS.iconst X624.here hx rfl (hb hby at_180) k))) ?_
          refine og T624 (mkF m 194 #[vI pi0, vI pi1, vI 7, vI (pi1 &&& (3 : Int32)), vR b170, vR b199, vR b606, vU, vU] [.int 2, (.int (pi1 &&& (3 : Int32)))]) (fun _ k => XS.icmpYes X624.here hx rfl (pc0 := 181) (pc' := 192) rfl (hb hby at_181) rfl (flt (own_nlt (a := (0 : Int32)) (by decide) hc643)).2.2.2 (by decide) (by decide) (XS.iloadN X624.here hx rfl (hb hby at_192) rfl (XS.iconst X624.here hx rfl (hb hby at_193) k))) ?_
          refine og T624 (mkF m 205 #[vI pi0, vI pi1, vI 7, vI (pi1 &&& (3 : Int32)), vR b170, vR b199, vR b606, vU, vU] []) (fun _ k => XS.icmpYes X624.here hx rfl (pc0 := 194) (pc' := 205) rfl (hb hby at_194) rfl (flt (own_nlt (a := (1 : Int32)) (by decide) (own_nlt (a := (0 : Int32)) (by decide) hc643))).2.2.2 (by decide) (by decide) k) ?_
          have F720 := (A606.keep K624)
          have KEEP := KP642
          exact J1 _ _ _ b170 b199 b606 o625 o626 (7 : Int32) (own_wk X624 (lb rfl) (lb rfl)) rfl N624 KEEP z609 F720 f631 (Or.inl ⟨f632, f633, _, _, f634⟩) f632.lt f634.lt ⟨⟨7, by decide⟩, rfl⟩
       ·
        have hm : nm = (6 : Int32) := own_eqk hc294 hc308 (by decide)
        rw [hm]
        refine og T300 (mkF m 156 #[vI pi0, vI pi1, vI 6, vI (pi1 &&& (3 : Int32)), vR b170, vR b199, vU, vU, vU] []) (fun _ k => XS.icmpYes X300.here hx rfl (pc0 := 117) (pc' := 128) rfl (hb hby at_117) rfl (flt (by decide : ¬ ((6 : Int32) < (6 : Int32)))).2.2.2 (by decide) (by decide) (XS.iloadN X300.here hx rfl (hb hby at_128) rfl (XS.bipush X300.here hx rfl (hb hby at_129) (XS.icmpYes X300.here hx rfl (pc0 := 131) (pc' := 142) rfl (hb hby at_131) rfl (flt (by decide : ¬ ((7 : Int32) < (6 : Int32)))).2.2.2 (by decide) (by decide) (XS.iloadN X300.here hx rfl (hb hby at_142) rfl (XS.bipush X300.here hx rfl (hb hby at_143) (XS.icmpYes X300.here hx rfl (pc0 := 145) (pc' := 156) rfl (hb hby at_145) rfl (flt (by decide : ¬ ((8 : Int32) < (6 : Int32)))).2.2.2 (by decide) (by decide) k))))))) ?_
        have K722 := ((((KP214.trans K222 (allS (Or.inr z202) all0)).trans K243 (allS (Or.inr z202) (allS (Or.inr z234) all0))).trans K258 (allS (Or.inr z202) (allS (Or.inr z234) all0))).trans K272 (allS (Or.inr z202) (allS (Or.inr z234) all0)))
        have KP721 := ((K722.trans K286 (allS (Or.inr z202) (allS (Or.inr z234) all0))).trans K300 (allS (Or.inr z202) (allS (Or.inr z234) all0)))
        obtain ⟨T723, h723, X723, e723, E723, A723, D723, U723, st723⟩ := newO X300 hx hZ hown (ow hw 1) (ow hw 2) (ow hw 3) rfl (g := (mkF m 156 #[vI pi0, vI pi1, vI 6, vI (pi1 &&& (3 : Int32)), vR b170, vR b199, vU, vU, vU] [])) rfl (hb hby at_156) (lb rfl) (lb rfl)
        obtain ⟨b723, gb723⟩ : ∃ z, z = T300.heap.size := ⟨_, rfl⟩
        rw [← gb723] at A723 D723 U723 st723
        have F725 := (F299.keep K300 (allS g200 (allS g233 all0)))
        have g724 : n0 ≤ b723 := Nat.le_trans (own_osz F725) (Nat.le_of_eq gb723.symm)
        have F727 := (Nat.le_trans (Nat.le_trans (Nat.le_trans (Nat.le_trans F235 K222.1) K243.1) K258.1) K272.1)
        have F728 := (Nat.le_trans (Nat.le_trans F727 K286.1) K300.1)
        have z726 : h0.size ≤ b723 := Nat.le_trans F728 (Nat.le_of_eq gb723.symm)
        have ch729 := CHr.ext E723 CH307.1
        have CH730 := CHr.trans CH307 ch729
        refine og T723 (mkF m 162 #[vI pi0, vI pi1, vI 6, vI (pi1 &&& (3 : Int32)), vR b170, vR b199, vU, vU, vU] [.ref b199, .ref b723, .ref b723]) (fun _ k => st723 _ (XS.dup X723.here hx rfl (hb hby at_159) rfl rfl (XS.aload X723.here hx rfl (hb hby at_160) rfl rfl k))) ?_
        have F731 := (f301.ext E723)
        have F732 := ((F295.keep K300).ext E723)
        have F733 := (f302.ext E723)
        have F734 := ((F296.keep K300).ext E723)
        have F735 := ((F297.keep K300).ext E723)
        have F736 := ((F298.keep K300 (ninS ne219 (ninS ne255 nin0))).ext E723)
        have F737 := (f305.ext E723)
        have F738 := (f303.ext E723)
        have F739 := (f304.ext E723)
        have F740 := (F725.ext E723)
        obtain ⟨_, T741, L741, X741, hQ741, st741⟩ := own_sc X723 hx hZ rfl hown (ow hw 30) (ow hw 31) (rm5_88 l Z a0 hw b723 b199 o223 kc224 b170 el ee kee em mo h723 n0 F740 EE0 FE0 VE0 A723 (D723 (Or.inr (ow hw 64)) (ty := (.object "java/util/List")) (by decide)) F731 F732 F733 F734 F735 F736 F737 f232 F738 F739 EM0 Mmo SM0 SE0 (own_ne_lo (Nat.lt_of_lt_of_le A199.lt K207.1) f225) g724) (ow hw 32) (ow hw 3) e723 (g := (mkF m 162 #[vI pi0, vI pi1, vI 6, vI (pi1 &&& (3 : Int32)), vR b170, vR b199, vU, vU, vU] [.ref b199, .ref b723, .ref b723])) rfl (zs hml) (argsL := [.ref b199]) (rest := [.ref b723]) (lenOf pd_27 rfl) rfl (hb hby at_162) (W := 1) rfl
        obtain ⟨o742, o743, kc744, vq745, rfl, Nq741, K741, f746, f747, f748, f749, f750, f751⟩ := hQ741
        have N741 := Fr.app N300 Nq741
        have g752 : n0 ≤ o742 := Nat.le_trans (own_osz F740) f746
        have F754 := (Nat.le_trans F728 E723.1)
        have z753 : h0.size ≤ o742 := Nat.le_trans F754 f746
        have g755 : n0 ≤ o743 := Nat.le_trans (own_osz F740) f747
        have z756 : h0.size ≤ o743 := Nat.le_trans F754 f747
        have ch757 := CHr.keep K741 (allS (Safe.exa hZ.alike A723 (by decide) (by decide)) all0) CH730.1
        have CH758 := CHr.trans CH730 ch757
        refine og T741 (mkF m 167 #[vI pi0, vI pi1, vI 6, vI (pi1 &&& (3 : Int32)), vR b170, vR b199, vR b723, vU, vU] []) (fun _ k => st741.trans (XS.astore X741.here hx rfl (hb hby at_165) rfl rfl (l' := #[vI pi0, vI pi1, vI 6, vI (pi1 &&& (3 : Int32)), vR b170, vR b199, vR b723, vU, vU]) rfl k)) ?_
        have KP759 := ((KP721.ext E723).trans K741 (allS (Or.inr z726) all0))
        refine og T741 (mkF m 168 #[vI pi0, vI pi1, vI 6, vI (pi1 &&& (3 : Int32)), vR b170, vR b199, vR b723, vU, vU] [(.int (pi1 &&& (3 : Int32)))]) (fun _ k => XS.iloadN X741.here hx rfl (hb hby at_167) rfl k) ?_
        by_cases hc760 : (0 : Int32) < (pi1 &&& (3 : Int32))
        ·
         refine og T741 (mkF m 175 #[vI pi0, vI pi1, vI 6, vI (pi1 &&& (3 : Int32)), vR b170, vR b199, vR b723, vU, vU] [.ref b170, .ref b199]) (fun _ k => XS.ifNo X741.here hx rfl (hb hby at_168) rfl ((if0 _ _).trans (tlt hc760).2.2.2) (XS.aload X741.here hx rfl (hb hby at_171) rfl rfl (XS.aload X741.here hx rfl (hb hby at_173) rfl rfl k))) ?_
         have ne761 : b199 ≠ b723 := (own_ne_lo (Nat.lt_of_lt_of_le (Nat.lt_of_lt_of_le (Nat.lt_of_lt_of_le (Nat.lt_of_lt_of_le (Nat.lt_of_lt_of_le (Nat.lt_of_lt_of_le (Nat.lt_of_lt_of_le A199.lt K207.1) K222.1) K243.1) K258.1) K272.1) K286.1) K300.1) (Nat.le_of_eq gb723.symm))
         have F762 := (F731.keep K741 (ninS ne761 nin0))
         have F763 := (F732.keep K741)
         have F764 := (F733.keep K741 (ninS ne761 nin0))
         have F765 := (F734.keep K741)
         have F766 := (F735.keep K741)
         have ne767 : b170 ≠ b723 := (own_ne_lo (Nat.lt_of_lt_of_le (Nat.lt_of_lt_of_le (Nat.lt_of_lt_of_le (Nat.lt_of_lt_of_le (Nat.lt_of_lt_of_le (Nat.lt_of_lt_of_le (Nat.lt_of_lt_of_le (Nat.lt_of_lt_of_le (Nat.lt_of_lt_of_le (Nat.lt_of_lt_of_le (Nat.lt_of_lt_of_le A170.lt E175.1) K183.1) K194.1) E199.1) K207.1) K222.1) K243.1) K258.1) K272.1) K286.1) K300.1) (Nat.le_of_eq gb723.symm))
         have F768 := (F736.keep K741 (ninS ne767 nin0))
         have ne769 : o223 ≠ b723 := (own_ne_lo (Nat.lt_of_lt_of_le (Nat.lt_of_lt_of_le (Nat.lt_of_lt_of_le (Nat.lt_of_lt_of_le (Nat.lt_of_lt_of_le f230.lt K243.1) K258.1) K272.1) K286.1) K300.1) (Nat.le_of_eq gb723.symm))
         have F770 := (F737.keep K741 (ninS ne769 nin0))
         have F771 := (F738.keep K741 (ninS ne761 nin0))
         have F772 := (F739.keep K741 (ninS ne761 nin0))
         have F773 := (F740.keep K741 (allS g724 all0))
         obtain ⟨_, T774, L774, X774, hQ774, st774⟩ := own_vc X741 hx hZ hown (ow hw 65) (ow hw 66) (ow hw 68) (ow hw 67) F763 (rm10_66 l Z a0 hw b199 o223 kc224 b170 el ee kee T741.heap n0 F773 EE0 FE0 VE0 F762 F763 F764 F765 F766 F768 F770 f232 F771 F772 g200 ne219 (Ne.symm (own_ne_lo (Nat.lt_of_lt_of_le A199.lt K207.1) f225)) g233) (ow hw 69) (ow hw 6) rfl (g := (mkF m 175 #[vI pi0, vI pi1, vI 6, vI (pi1 &&& (3 : Int32)), vR b170, vR b199, vR b723, vU, vU] [.ref b170, .ref b199])) rfl (zs hml) (argsL := [.ref b170]) (rest := []) (lenOf pd_24 rfl) rfl (hb hby at_175) (W := 0) rfl
         obtain ⟨rfl, Nq774, K774, f775, f776, f777, f778, f779⟩ := hQ774
         have N774 := Fr.app N741 Nq774
         have ch780 := CHr.keep K774 (allS (Safe.exa hZ.alike F763 (by decide) (by decide)) (allS (Safe.exa hZ.alike F765 (by decide) (by decide)) all0)) CH758.1
         have CH781 := CHr.trans CH758 ch780
         refine og T774 (mkF m 181 #[vI pi0, vI pi1, vI 6, vI (pi1 &&& (3 : Int32)), vR b170, vR b199, vR b723, vU, vU] [.int 1, (.int (pi1 &&& (3 : Int32)))]) (fun _ k => st774.trans (XS.pop X774.here hx rfl (hb hby at_178) rfl rfl (XS.iloadN X774.here hx rfl (hb hby at_179) rfl (XS.iconst X774.here hx rfl (hb hby at_180) k)))) ?_
         by_cases hc782 : (1 : Int32) < (pi1 &&& (3 : Int32))
         ·
          refine og T774 (mkF m 188 #[vI pi0, vI pi1, vI 6, vI (pi1 &&& (3 : Int32)), vR b170, vR b199, vR b723, vU, vU] [.ref b170, .ref b199]) (fun _ k => XS.icmpNo X774.here hx rfl (hb hby at_181) rfl (tlt hc782).2.2.2 (XS.aload X774.here hx rfl (hb hby at_184) rfl rfl (XS.aload X774.here hx rfl (hb hby at_186) rfl rfl k))) ?_
          have F783 := (F763.keep K774)
          have F784 := (F765.keep K774)
          have F785 := (F766.keep K774)
          have F786 := (F768.keep K774 (ninS ne219 (ninS ne255 nin0)))
          have F787 := (F773.keep K774 (allS g200 (allS g233 all0)))
          obtain ⟨_, T788, L788, X788, hQ788, st788⟩ := own_vc X774 hx hZ hown (ow hw 65) (ow hw 66) (ow hw 68) (ow hw 67) F783 (rm10_68 l Z a0 hw b199 o223 kc224 b170 el ee kee T774.heap n0 F787 EE0 FE0 VE0 f775 F783 f776 F784 F785 F786 f779 f232 f777 f778 g200 ne219 (Ne.symm (own_ne_lo (Nat.lt_of_lt_of_le A199.lt K207.1) f225)) g233) (ow hw 69) (ow hw 6) rfl (g := (mkF m 188 #[vI pi0, vI pi1, vI 6, vI (pi1 &&& (3 : Int32)), vR b170, vR b199, vR b723, vU, vU] [.ref b170, .ref b199])) rfl (zs hml) (argsL := [.ref b170]) (rest := []) (lenOf pd_24 rfl) rfl (hb hby at_188) (W := 0) rfl
          obtain ⟨rfl, Nq788, K788, f789, f790, f791, f792, f793⟩ := hQ788
          have N788 := Fr.app N774 Nq788
          have ch794 := CHr.keep K788 (allS (Safe.exa hZ.alike F783 (by decide) (by decide)) (allS (Safe.exa hZ.alike F784 (by decide) (by decide)) all0)) CH781.1
          have CH795 := CHr.trans CH781 ch794
          refine og T788 (mkF m 194 #[vI pi0, vI pi1, vI 6, vI (pi1 &&& (3 : Int32)), vR b170, vR b199, vR b723, vU, vU] [.int 2, (.int (pi1 &&& (3 : Int32)))]) (fun _ k => st788.trans (XS.pop X788.here hx rfl (hb hby at_191) rfl rfl (XS.iloadN X788.here hx rfl (hb hby at_192) rfl (XS.iconst X788.here hx rfl (hb hby at_193) k)))) ?_
          by_cases hc796 : (2 : Int32) < (pi1 &&& (3 : Int32))
          ·
           refine og T788 (mkF m 201 #[vI pi0, vI pi1, vI 6, vI (pi1 &&& (3 : Int32)), vR b170, vR b199, vR b723, vU, vU] [.ref b170, .ref b199]) (fun _ k => XS.icmpNo X788.here hx rfl (hb hby at_194) rfl (tlt hc796).2.2.2 (XS.aload X788.here hx rfl (hb hby at_197) rfl rfl (XS.aload X788.here hx rfl (hb hby at_199) rfl rfl k))) ?_
           have F797 := (F783.keep K788)
           have F798 := (F784.keep K788)
           have F799 := (F785.keep K788)
           have F800 := (F786.keep K788 (ninS ne219 (ninS ne255 nin0)))
           have F801 := (F787.keep K788 (allS g200 (allS g233 all0)))
           obtain ⟨_, T802, L802, X802, hQ802, st802⟩ := own_vc X788 hx hZ hown (ow hw 65) (ow hw 66) (ow hw 68) (ow hw 67) F797 (rm10_70 l Z a0 hw b199 o223 kc224 b170 el ee kee T788.heap n0 F801 EE0 FE0 VE0 f789 F797 f790 F798 F799 F800 f793 f232 f791 f792 g200 ne219 (Ne.symm (own_ne_lo (Nat.lt_of_lt_of_le A199.lt K207.1) f225)) g233) (ow hw 69) (ow hw 6) rfl (g := (mkF m 201 #[vI pi0, vI pi1, vI 6, vI (pi1 &&& (3 : Int32)), vR b170, vR b199, vR b723, vU, vU] [.ref b170, .ref b199])) rfl (zs hml) (argsL := [.ref b170]) (rest := []) (lenOf pd_24 rfl) rfl (hb hby at_201) (W := 0) rfl
           obtain ⟨rfl, Nq802, K802, f803, f804, f805, f806, f807⟩ := hQ802
           have N802 := Fr.app N788 Nq802
           have ch808 := CHr.keep K802 (allS (Safe.exa hZ.alike F797 (by decide) (by decide)) (allS (Safe.exa hZ.alike F798 (by decide) (by decide)) all0)) CH795.1
           have CH809 := CHr.trans CH795 ch808
           refine og T802 (mkF m 205 #[vI pi0, vI pi1, vI 6, vI (pi1 &&& (3 : Int32)), vR b170, vR b199, vR b723, vU, vU] []) (fun _ k => st802.trans (XS.pop X802.here hx rfl (hb hby at_204) rfl rfl k)) ?_
           have F810 := ((((A723.keep K741).keep K774).keep K788).keep K802)
           have F811 := (((f748.keep K774 (ninS (Ne.symm ne761) (ninS (Ne.symm ne769) nin0))).keep K788 (ninS (Ne.symm ne761) (ninS (Ne.symm ne769) nin0))).keep K802 (ninS (Ne.symm ne761) (ninS (Ne.symm ne769) nin0)))
           have F812 := (((f749.keep K774).keep K788).keep K802)
           have ne813 : o223 ≠ o743 := (own_ne_lo (Nat.lt_of_lt_of_le (Nat.lt_of_lt_of_le (Nat.lt_of_lt_of_le (Nat.lt_of_lt_of_le (Nat.lt_of_lt_of_le (Nat.lt_of_lt_of_le f230.lt K243.1) K258.1) K272.1) K286.1) K300.1) E723.1) f747)
           have ne814 : b199 ≠ o743 := (own_ne_lo (Nat.lt_of_lt_of_le (Nat.lt_of_lt_of_le (Nat.lt_of_lt_of_le (Nat.lt_of_lt_of_le (Nat.lt_of_lt_of_le (Nat.lt_of_lt_of_le (Nat.lt_of_lt_of_le (Nat.lt_of_lt_of_le A199.lt K207.1) K222.1) K243.1) K258.1) K272.1) K286.1) K300.1) E723.1) f747)
           have F815 := (((f751.keep K774 (ninS (Ne.symm ne814) (ninS (Ne.symm ne813) nin0))).keep K788 (ninS (Ne.symm ne814) (ninS (Ne.symm ne813) nin0))).keep K802 (ninS (Ne.symm ne814) (ninS (Ne.symm ne813) nin0)))
           have ne816 : o223 ≠ o742 := (own_ne_lo (Nat.lt_of_lt_of_le (Nat.lt_of_lt_of_le (Nat.lt_of_lt_of_le (Nat.lt_of_lt_of_le (Nat.lt_of_lt_of_le (Nat.lt_of_lt_of_le f230.lt K243.1) K258.1) K272.1) K286.1) K300.1) E723.1) f746)
           have ne817 : b199 ≠ o742 := (own_ne_lo (Nat.lt_of_lt_of_le (Nat.lt_of_lt_of_le (Nat.lt_of_lt_of_le (Nat.lt_of_lt_of_le (Nat.lt_of_lt_of_le (Nat.lt_of_lt_of_le (Nat.lt_of_lt_of_le (Nat.lt_of_lt_of_le A199.lt K207.1) K222.1) K243.1) K258.1) K272.1) K286.1) K300.1) E723.1) f746)
           have F818 := (((f750.keep K774 (ninS (Ne.symm ne817) (ninS (Ne.symm ne816) nin0))).keep K788 (ninS (Ne.symm ne817) (ninS (Ne.symm ne816) nin0))).keep K802 (ninS (Ne.symm ne817) (ninS (Ne.symm ne816) nin0)))
           have KEEP := (((KP759.trans K774 (allS (Or.inr z202) (allS (Or.inr z234) all0))).trans K788 (allS (Or.inr z202) (allS (Or.inr z234) all0))).trans K802 (allS (Or.inr z202) (allS (Or.inr z234) all0)))
           exact J1 _ _ _ b170 b199 b723 o742 o743 (6 : Int32) (own_wk X802 (lb rfl) (lb rfl)) rfl N802 KEEP z726 F810 F811 (Or.inl ⟨F812, F818, _, _, F815⟩) F812.lt F815.lt ⟨⟨6, by decide⟩, rfl⟩
          ·
           refine og T788 (mkF m 205 #[vI pi0, vI pi1, vI 6, vI (pi1 &&& (3 : Int32)), vR b170, vR b199, vR b723, vU, vU] []) (fun _ k => XS.icmpYes X788.here hx rfl (pc0 := 194) (pc' := 205) rfl (hb hby at_194) rfl (flt hc796).2.2.2 (by decide) (by decide) k) ?_
           have F819 := (((A723.keep K741).keep K774).keep K788)
           have F820 := ((f748.keep K774 (ninS (Ne.symm ne761) (ninS (Ne.symm ne769) nin0))).keep K788 (ninS (Ne.symm ne761) (ninS (Ne.symm ne769) nin0)))
           have F821 := ((f749.keep K774).keep K788)
           have ne822 : o223 ≠ o743 := (own_ne_lo (Nat.lt_of_lt_of_le (Nat.lt_of_lt_of_le (Nat.lt_of_lt_of_le (Nat.lt_of_lt_of_le (Nat.lt_of_lt_of_le (Nat.lt_of_lt_of_le f230.lt K243.1) K258.1) K272.1) K286.1) K300.1) E723.1) f747)
           have ne823 : b199 ≠ o743 := (own_ne_lo (Nat.lt_of_lt_of_le (Nat.lt_of_lt_of_le (Nat.lt_of_lt_of_le (Nat.lt_of_lt_of_le (Nat.lt_of_lt_of_le (Nat.lt_of_lt_of_le (Nat.lt_of_lt_of_le (Nat.lt_of_lt_of_le A199.lt K207.1) K222.1) K243.1) K258.1) K272.1) K286.1) K300.1) E723.1) f747)
           have F824 := ((f751.keep K774 (ninS (Ne.symm ne823) (ninS (Ne.symm ne822) nin0))).keep K788 (ninS (Ne.symm ne823) (ninS (Ne.symm ne822) nin0)))
           have ne825 : o223 ≠ o742 := (own_ne_lo (Nat.lt_of_lt_of_le (Nat.lt_of_lt_of_le (Nat.lt_of_lt_of_le (Nat.lt_of_lt_of_le (Nat.lt_of_lt_of_le (Nat.lt_of_lt_of_le f230.lt K243.1) K258.1) K272.1) K286.1) K300.1) E723.1) f746)
           have ne826 : b199 ≠ o742 := (own_ne_lo (Nat.lt_of_lt_of_le (Nat.lt_of_lt_of_le (Nat.lt_of_lt_of_le (Nat.lt_of_lt_of_le (Nat.lt_of_lt_of_le (Nat.lt_of_lt_of_le (Nat.lt_of_lt_of_le (Nat.lt_of_lt_of_le A199.lt K207.1) K222.1) K243.1) K258.1) K272.1) K286.1) K300.1) E723.1) f746)
           have F827 := ((f750.keep K774 (ninS (Ne.symm ne826) (ninS (Ne.symm ne825) nin0))).keep K788 (ninS (Ne.symm ne826) (ninS (Ne.symm ne825) nin0)))
           have KEEP := ((KP759.trans K774 (allS (Or.inr z202) (allS (Or.inr z234) all0))).trans K788 (allS (Or.inr z202) (allS (Or.inr z234) all0)))
           exact J1 _ _ _ b170 b199 b723 o742 o743 (6 : Int32) (own_wk X788 (lb rfl) (lb rfl)) rfl N788 KEEP z726 F819 F820 (Or.inl ⟨F821, F827, _, _, F824⟩) F821.lt F824.lt ⟨⟨6, by decide⟩, rfl⟩
         ·
          refine og T774 (mkF m 194 #[vI pi0, vI pi1, vI 6, vI (pi1 &&& (3 : Int32)), vR b170, vR b199, vR b723, vU, vU] [.int 2, (.int (pi1 &&& (3 : Int32)))]) (fun _ k => XS.icmpYes X774.here hx rfl (pc0 := 181) (pc' := 192) rfl (hb hby at_181) rfl (flt hc782).2.2.2 (by decide) (by decide) (XS.iloadN X774.here hx rfl (hb hby at_192) rfl (XS.iconst X774.here hx rfl (hb hby at_193) k))) ?_
          refine og T774 (mkF m 205 #[vI pi0, vI pi1, vI 6, vI (pi1 &&& (3 : Int32)), vR b170, vR b199, vR b723, vU, vU] []) (fun _ k => XS.icmpYes X774.here hx rfl (pc0 := 194) (pc' := 205) rfl (hb hby at_194) rfl (flt (own_nlt (a := (1 : Int32)) (by decide) hc782)).2.2.2 (by decide) (by decide) k) ?_
          have F828 := ((A723.keep K741).keep K774)
          have F829 := (f748.keep K774 (ninS (Ne.symm ne761) (ninS (Ne.symm ne769) nin0)))
          have F830 := (f749.keep K774)
          have ne831 : o223 ≠ o743 := (own_ne_lo (Nat.lt_of_lt_of_le (Nat.lt_of_lt_of_le (Nat.lt_of_lt_of_le (Nat.lt_of_lt_of_le (Nat.lt_of_lt_of_le (Nat.lt_of_lt_of_le f230.lt K243.1) K258.1) K272.1) K286.1) K300.1) E723.1) f747)
          have ne832 : b199 ≠ o743 := (own_ne_lo (Nat.lt_of_lt_of_le (Nat.lt_of_lt_of_le (Nat.lt_of_lt_of_le (Nat.lt_of_lt_of_le (Nat.lt_of_lt_of_le (Nat.lt_of_lt_of_le (Nat.lt_of_lt_of_le (Nat.lt_of_lt_of_le A199.lt K207.1) K222.1) K243.1) K258.1) K272.1) K286.1) K300.1) E723.1) f747)
          have F833 := (f751.keep K774 (ninS (Ne.symm ne832) (ninS (Ne.symm ne831) nin0)))
          have ne834 : o223 ≠ o742 := (own_ne_lo (Nat.lt_of_lt_of_le (Nat.lt_of_lt_of_le (Nat.lt_of_lt_of_le (Nat.lt_of_lt_of_le (Nat.lt_of_lt_of_le (Nat.lt_of_lt_of_le f230.lt K243.1) K258.1) K272.1) K286.1) K300.1) E723.1) f746)
          have ne835 : b199 ≠ o742 := (own_ne_lo (Nat.lt_of_lt_of_le (Nat.lt_of_lt_of_le (Nat.lt_of_lt_of_le (Nat.lt_of_lt_of_le (Nat.lt_of_lt_of_le (Nat.lt_of_lt_of_le (Nat.lt_of_lt_of_le (Nat.lt_of_lt_of_le A199.lt K207.1) K222.1) K243.1) K258.1) K272.1) K286.1) K300.1) E723.1) f746)
          have F836 := (f750.keep K774 (ninS (Ne.symm ne835) (ninS (Ne.symm ne834) nin0)))
          have KEEP := (KP759.trans K774 (allS (Or.inr z202) (allS (Or.inr z234) all0)))
          exact J1 _ _ _ b170 b199 b723 o742 o743 (6 : Int32) (own_wk X774 (lb rfl) (lb rfl)) rfl N774 KEEP z726 F828 F829 (Or.inl ⟨F830, F836, _, _, F833⟩) F830.lt F833.lt ⟨⟨6, by decide⟩, rfl⟩
        ·
         refine og T741 (mkF m 181 #[vI pi0, vI pi1, vI 6, vI (pi1 &&& (3 : Int32)), vR b170, vR b199, vR b723, vU, vU] [.int 1, (.int (pi1 &&& (3 : Int32)))]) (fun _ k => XS.ifYes X741.here hx rfl (pc0 := 168) (pc' := 179) rfl (hb hby at_168) rfl ((if0 _ _).trans (flt hc760).2.2.2) (by decide) (by decide) (XS.iloadN X741.here hx rfl (hb hby at_179) rfl (XS.iconst X741.here hx rfl (hb hby at_180) k))) ?_
         refine og T741 (mkF m 194 #[vI pi0, vI pi1, vI 6, vI (pi1 &&& (3 : Int32)), vR b170, vR b199, vR b723, vU, vU] [.int 2, (.int (pi1 &&& (3 : Int32)))]) (fun _ k => XS.icmpYes X741.here hx rfl (pc0 := 181) (pc' := 192) rfl (hb hby at_181) rfl (flt (own_nlt (a := (0 : Int32)) (by decide) hc760)).2.2.2 (by decide) (by decide) (XS.iloadN X741.here hx rfl (hb hby at_192) rfl (XS.iconst X741.here hx rfl (hb hby at_193) k))) ?_
         refine og T741 (mkF m 205 #[vI pi0, vI pi1, vI 6, vI (pi1 &&& (3 : Int32)), vR b170, vR b199, vR b723, vU, vU] []) (fun _ k => XS.icmpYes X741.here hx rfl (pc0 := 194) (pc' := 205) rfl (hb hby at_194) rfl (flt (own_nlt (a := (1 : Int32)) (by decide) (own_nlt (a := (0 : Int32)) (by decide) hc760))).2.2.2 (by decide) (by decide) k) ?_
         have F837 := (A723.keep K741)
         have KEEP := KP759
         exact J1 _ _ _ b170 b199 b723 o742 o743 (6 : Int32) (own_wk X741 (lb rfl) (lb rfl)) rfl N741 KEEP z726 F837 f748 (Or.inl ⟨f749, f750, _, _, f751⟩) f749.lt f751.lt ⟨⟨6, by decide⟩, rfl⟩
      ·
       have hm : nm = (5 : Int32) := own_eqk hc280 hc294 (by decide)
       rw [hm]
       refine og T286 (mkF m 156 #[vI pi0, vI pi1, vI 5, vI (pi1 &&& (3 : Int32)), vR b170, vR b199, vU, vU, vU] []) (fun _ k => XS.icmpYes X286.here hx rfl (pc0 := 103) (pc' := 114) rfl (hb hby at_103) rfl (flt (by decide : ¬ ((5 : Int32) < (5 : Int32)))).2.2.2 (by decide) (by decide) (XS.iloadN X286.here hx rfl (hb hby at_114) rfl (XS.bipush X286.here hx rfl (hb hby at_115) (XS.icmpYes X286.here hx rfl (pc0 := 117) (pc' := 128) rfl (hb hby at_117) rfl (flt (by decide : ¬ ((6 : Int32) < (5 : Int32)))).2.2.2 (by decide) (by decide) (XS.iloadN X286.here hx rfl (hb hby at_128) rfl (XS.bipush X286.here hx rfl (hb hby at_129) (XS.icmpYes X286.here hx rfl (pc0 := 131) (pc' := 142) rfl (hb hby at_131) rfl (flt (by decide : ¬ ((7 : Int32) < (5 : Int32)))).2.2.2 (by decide) (by decide) (XS.iloadN X286.here hx rfl (hb hby at_142) rfl (XS.bipush X286.here hx rfl (hb hby at_143) (XS.icmpYes X286.here hx rfl (pc0 := 145) (pc' := 156) rfl (hb hby at_145) rfl (flt (by decide : ¬ ((8 : Int32) < (5 : Int32)))).2.2.2 (by decide) (by decide) k)))))))))) ?_
       have K839 := ((((KP214.trans K222 (allS (Or.inr z202) all0)).trans K243 (allS (Or.inr z202) (allS (Or.inr z234) all0))).trans K258 (allS (Or.inr z202) (allS (Or.inr z234) all0))).trans K272 (allS (Or.inr z202) (allS (Or.inr z234) all0)))
       have KP838 := (K839.trans K286 (allS (Or.inr z202) (allS (Or.inr z234) all0)))
       obtain ⟨T840, h840, X840, e840, E840, A840, D840, U840, st840⟩ := newO X286 hx hZ hown (ow hw 1) (ow hw 2) (ow hw 3) rfl (g := (mkF m 156 #[vI pi0, vI pi1, vI 5, vI (pi1 &&& (3 : Int32)), vR b170, vR b199, vU, vU, vU] [])) rfl (hb hby at_156) (lb rfl) (lb rfl)
       obtain ⟨b840, gb840⟩ : ∃ z, z = T286.heap.size := ⟨_, rfl⟩
       rw [← gb840] at A840 D840 U840 st840
       have F842 := (F285.keep K286 (allS g200 (allS g233 all0)))
       have g841 : n0 ≤ b840 := Nat.le_trans (own_osz F842) (Nat.le_of_eq gb840.symm)
       have F844 := (Nat.le_trans (Nat.le_trans (Nat.le_trans (Nat.le_trans F235 K222.1) K243.1) K258.1) K272.1)
       have F845 := (Nat.le_trans F844 K286.1)
       have z843 : h0.size ≤ b840 := Nat.le_trans F845 (Nat.le_of_eq gb840.symm)
       have ch846 := CHr.ext E840 CH293.1
       have CH847 := CHr.trans CH293 ch846
       refine og T840 (mkF m 162 #[vI pi0, vI pi1, vI 5, vI (pi1 &&& (3 : Int32)), vR b170, vR b199, vU, vU, vU] [.ref b199, .ref b840, .ref b840]) (fun _ k => st840 _ (XS.dup X840.here hx rfl (hb hby at_159) rfl rfl (XS.aload X840.here hx rfl (hb hby at_160) rfl rfl k))) ?_
       have F848 := (f287.ext E840)
       have F849 := ((F281.keep K286).ext E840)
       have F850 := (f288.ext E840)
       have F851 := ((F282.keep K286).ext E840)
       have F852 := ((F283.keep K286).ext E840)
       have F853 := ((F284.keep K286 (ninS ne219 (ninS ne255 nin0))).ext E840)
       have F854 := (f291.ext E840)
       have F855 := (f289.ext E840)
       have F856 := (f290.ext E840)
       have F857 := (F842.ext E840)
       obtain ⟨_, T858, L858, X858, hQ858, st858⟩ := own_sc X840 hx hZ rfl hown (ow hw 30) (ow hw 31) (rm5_89 l Z a0 hw b840 b199 o223 kc224 b170 el ee kee em mo h840 n0 F857 EE0 FE0 VE0 A840 (D840 (Or.inr (ow hw 64)) (ty := (.object "java/util/List")) (by decide)) F848 F849 F850 F851 F852 F853 F854 f232 F855 F856 EM0 Mmo SM0 SE0 (own_ne_lo (Nat.lt_of_lt_of_le A199.lt K207.1) f225) g841) (ow hw 32) (ow hw 3) e840 (g := (mkF m 162 #[vI pi0, vI pi1, vI 5, vI (pi1 &&& (3 : Int32)), vR b170, vR b199, vU, vU, vU] [.ref b199, .ref b840, .ref b840])) rfl (zs hml) (argsL := [.ref b199]) (rest := [.ref b840]) (lenOf pd_27 rfl) rfl (hb hby at_162) (W := 1) rfl
       obtain ⟨o859, o860, kc861, vq862, rfl, Nq858, K858, f863, f864, f865, f866, f867, f868⟩ := hQ858
       have N858 := Fr.app N286 Nq858
       have g869 : n0 ≤ o859 := Nat.le_trans (own_osz F857) f863
       have F871 := (Nat.le_trans F845 E840.1)
       have z870 : h0.size ≤ o859 := Nat.le_trans F871 f863
       have g872 : n0 ≤ o860 := Nat.le_trans (own_osz F857) f864
       have z873 : h0.size ≤ o860 := Nat.le_trans F871 f864
       have ch874 := CHr.keep K858 (allS (Safe.exa hZ.alike A840 (by decide) (by decide)) all0) CH847.1
       have CH875 := CHr.trans CH847 ch874
       refine og T858 (mkF m 167 #[vI pi0, vI pi1, vI 5, vI (pi1 &&& (3 : Int32)), vR b170, vR b199, vR b840, vU, vU] []) (fun _ k => st858.trans (XS.astore X858.here hx rfl (hb hby at_165) rfl rfl (l' := #[vI pi0, vI pi1, vI 5, vI (pi1 &&& (3 : Int32)), vR b170, vR b199, vR b840, vU, vU]) rfl k)) ?_
       have KP876 := ((KP838.ext E840).trans K858 (allS (Or.inr z843) all0))
       refine og T858 (mkF m 168 #[vI pi0, vI pi1, vI 5, vI (pi1 &&& (3 : Int32)), vR b170, vR b199, vR b840, vU, vU] [(.int (pi1 &&& (3 : Int32)))]) (fun _ k => XS.iloadN X858.here hx rfl (hb hby at_167) rfl k) ?_
       by_cases hc877 : (0 : Int32) < (pi1 &&& (3 : Int32))
       ·
        refine og T858 (mkF m 175 #[vI pi0, vI pi1, vI 5, vI (pi1 &&& (3 : Int32)), vR b170, vR b199, vR b840, vU, vU] [.ref b170, .ref b199]) (fun _ k => XS.ifNo X858.here hx rfl (hb hby at_168) rfl ((if0 _ _).trans (tlt hc877).2.2.2) (XS.aload X858.here hx rfl (hb hby at_171) rfl rfl (XS.aload X858.here hx rfl (hb hby at_173) rfl rfl k))) ?_
        have ne878 : b199 ≠ b840 := (own_ne_lo (Nat.lt_of_lt_of_le (Nat.lt_of_lt_of_le (Nat.lt_of_lt_of_le (Nat.lt_of_lt_of_le (Nat.lt_of_lt_of_le (Nat.lt_of_lt_of_le A199.lt K207.1) K222.1) K243.1) K258.1) K272.1) K286.1) (Nat.le_of_eq gb840.symm))
        have F879 := (F848.keep K858 (ninS ne878 nin0))
        have F880 := (F849.keep K858)
        have F881 := (F850.keep K858 (ninS ne878 nin0))
        have F882 := (F851.keep K858)
        have F883 := (F852.keep K858)
        have ne884 : b170 ≠ b840 := (own_ne_lo (Nat.lt_of_lt_of_le (Nat.lt_of_lt_of_le (Nat.lt_of_lt_of_le (Nat.lt_of_lt_of_le (Nat.lt_of_lt_of_le (Nat.lt_of_lt_of_le (Nat.lt_of_lt_of_le (Nat.lt_of_lt_of_le (Nat.lt_of_lt_of_le (Nat.lt_of_lt_of_le A170.lt E175.1) K183.1) K194.1) E199.1) K207.1) K222.1) K243.1) K258.1) K272.1) K286.1) (Nat.le_of_eq gb840.symm))
        have F885 := (F853.keep K858 (ninS ne884 nin0))
        have ne886 : o223 ≠ b840 := (own_ne_lo (Nat.lt_of_lt_of_le (Nat.lt_of_lt_of_le (Nat.lt_of_lt_of_le (Nat.lt_of_lt_of_le f230.lt K243.1) K258.1) K272.1) K286.1) (Nat.le_of_eq gb840.symm))
        have F887 := (F854.keep K858 (ninS ne886 nin0))
        have F888 := (F855.keep K858 (ninS ne878 nin0))
        have F889 := (F856.keep K858 (ninS ne878 nin0))
        have F890 := (F857.keep K858 (allS g841 all0))
        obtain ⟨_, T891, L891, X891, hQ891, st891⟩ := own_vc X858 hx hZ hown (ow hw 65) (ow hw 66) (ow hw 68) (ow hw 67) F880 (rm10_64 l Z a0 hw b199 o223 kc224 b170 el ee kee T858.heap n0 F890 EE0 FE0 VE0 F879 F880 F881 F882 F883 F885 F887 f232 F888 F889 g200 ne219 (Ne.symm (own_ne_lo (Nat.lt_of_lt_of_le A199.lt K207.1) f225)) g233) (ow hw 69) (ow hw 6) rfl (g := (mkF m 175 #[vI pi0, vI pi1, vI 5, vI (pi1 &&& (3 : Int32)), vR b170, vR b199, vR b840, vU, vU] [.ref b170, .ref b199])) rfl (zs hml) (argsL := [.ref b170]) (rest := []) (lenOf pd_24 rfl) rfl (hb hby at_175) (W := 0) rfl
        obtain ⟨rfl, Nq891, K891, f892, f893, f894, f895, f896⟩ := hQ891
        have N891 := Fr.app N858 Nq891
        have ch897 := CHr.keep K891 (allS (Safe.exa hZ.alike F880 (by decide) (by decide)) (allS (Safe.exa hZ.alike F882 (by decide) (by decide)) all0)) CH875.1
        have CH898 := CHr.trans CH875 ch897
        refine og T891 (mkF m 181 #[vI pi0, vI pi1, vI 5, vI (pi1 &&& (3 : Int32)), vR b170, vR b199, vR b840, vU, vU] [.int 1, (.int (pi1 &&& (3 : Int32)))]) (fun _ k => st891.trans (XS.pop X891.here hx rfl (hb hby at_178) rfl rfl (XS.iloadN X891.here hx rfl (hb hby at_179) rfl (XS.iconst X891.here hx rfl (hb hby at_180) k)))) ?_
        by_cases hc899 : (1 : Int32) < (pi1 &&& (3 : Int32))
        ·
         refine og T891 (mkF m 188 #[vI pi0, vI pi1, vI 5, vI (pi1 &&& (3 : Int32)), vR b170, vR b199, vR b840, vU, vU] [.ref b170, .ref b199]) (fun _ k => XS.icmpNo X891.here hx rfl (hb hby at_181) rfl (tlt hc899).2.2.2 (XS.aload X891.here hx rfl (hb hby at_184) rfl rfl (XS.aload X891.here hx rfl (hb hby at_186) rfl rfl k))) ?_
         have F900 := (F880.keep K891)
         have F901 := (F882.keep K891)
         have F902 := (F883.keep K891)
         have F903 := (F885.keep K891 (ninS ne219 (ninS ne255 nin0)))
         have F904 := (F890.keep K891 (allS g200 (allS g233 all0)))
         obtain ⟨_, T905, L905, X905, hQ905, st905⟩ := own_vc X891 hx hZ hown (ow hw 65) (ow hw 66) (ow hw 68) (ow hw 67) F900 (rm10_66 l Z a0 hw b199 o223 kc224 b170 el ee kee T891.heap n0 F904 EE0 FE0 VE0 f892 F900 f893 F901 F902 F903 f896 f232 f894 f895 g200 ne219 (Ne.symm (own_ne_lo (Nat.lt_of_lt_of_le A199.lt K207.1) f225)) g233) (ow hw 69) (ow hw 6) rfl (g := (mkF m 188 #[vI pi0, vI pi1, vI 5, vI (pi1 &&& (3 : Int32)), vR b170, vR b199, vR b840, vU, vU] [.ref b170, .ref b199])) rfl (zs hml) (argsL := [.ref b170]) (rest := []) (lenOf pd_24 rfl) rfl (hb hby at_188) (W := 0) rfl
         obtain ⟨rfl, Nq905, K905, f906, f907, f908, f909, f910⟩ := hQ905
         have N905 := Fr.app N891 Nq905
         have ch911 := CHr.keep K905 (allS (Safe.exa hZ.alike F900 (by decide) (by decide)) (allS (Safe.exa hZ.alike F901 (by decide) (by decide)) all0)) CH898.1
         have CH912 := CHr.trans CH898 ch911
         refine og T905 (mkF m 194 #[vI pi0, vI pi1, vI 5, vI (pi1 &&& (3 : Int32)), vR b170, vR b199, vR b840, vU, vU] [.int 2, (.int (pi1 &&& (3 : Int32)))]) (fun _ k => st905.trans (XS.pop X905.here hx rfl (hb hby at_191) rfl rfl (XS.iloadN X905.here hx rfl (hb hby at_192) rfl (XS.iconst X905.here hx rfl (hb hby at_193) k)))) ?_
         by_cases hc913 : (2 : Int32) < (pi1 &&& (3 : Int32))
         ·
          refine og T905 (mkF m 201 #[vI pi0, vI pi1, vI 5, vI (pi1 &&& (3 : Int32)), vR b170, vR b199, vR b840, vU, vU] [.ref b170, .ref b199]) (fun _ k => XS.icmpNo X905.here hx rfl (hb hby at_194) rfl (tlt hc913).2.2.2 (XS.aload X905.here hx rfl (hb hby at_197) rfl rfl (XS.aload X905.here hx rfl (hb hby at_199) rfl rfl k))) ?_
          have F914 := (F900.keep K905)
          have F915 := (F901.keep K905)
          have F916 := (F902.keep K905)
          have F917 := (F903.keep K905 (ninS ne219 (ninS ne255 nin0)))
          have F918 := (F904.keep K905 (allS g200 (allS g233 all0)))
          obtain ⟨_, T919, L919, X919, hQ919, st919⟩ := own_vc X905 hx hZ hown (ow hw 65) (ow hw 66) (ow hw 68) (ow hw 67) F914 (rm10_68 l Z a0 hw b199 o223 kc224 b170 el ee kee T905.heap n0 F918 EE0 FE0 VE0 f906 F914 f907 F915 F916 F917 f910 f232 f908 f909 g200 ne219 (Ne.symm (own_ne_lo (Nat.lt_of_lt_of_le A199.lt K207.1) f225)) g233) (ow hw 69) (ow hw 6) rfl (g := (mkF m 201 #[vI pi0, vI pi1, vI 5, vI (pi1 &&& (3 : Int32)), vR b170, vR b199, vR b840, vU, vU] [.ref b170, .ref b199])) rfl (zs hml) (argsL := [.ref b170]) (rest := []) (lenOf pd_24 rfl) rfl (hb hby at_201) (W := 0) rfl
          obtain ⟨rfl, Nq919, K919, f920, f921, f922, f923, f924⟩ := hQ919
          have N919 := Fr.app N905 Nq919
          have ch925 := CHr.keep K919 (allS (Safe.exa hZ.alike F914 (by decide) (by decide)) (allS (Safe.exa hZ.alike F915 (by decide) (by decide)) all0)) CH912.1
          have CH926 := CHr.trans CH912 ch925
          refine og T919 (mkF m 205 #[vI pi0, vI pi1, vI 5, vI (pi1 &&& (3 : Int32)), vR b170, vR b199, vR b840, vU, vU] []) (fun _ k => st919.trans (XS.pop X919.here hx rfl (hb hby at_204) rfl rfl k)) ?_
          have F927 := ((((A840.keep K858).keep K891).keep K905).keep K919)
          have F928 := (((f865.keep K891 (ninS (Ne.symm ne878) (ninS (Ne.symm ne886) nin0))).keep K905 (ninS (Ne.symm ne878) (ninS (Ne.symm ne886) nin0))).keep K919 (ninS (Ne.symm ne878) (ninS (Ne.symm ne886) nin0)))
          have F929 := (((f866.keep K891).keep K905).keep K919)
          have ne930 : o223 ≠ o860 := (own_ne_lo (Nat.lt_of_lt_of_le (Nat.lt_of_lt_of_le (Nat.lt_of_lt_of_le (Nat.lt_of_lt_of_le (Nat.lt_of_lt_of_le f230.lt K243.1) K258.1) K272.1) K286.1) E840.1) f864)
          have ne931 : b199 ≠ o860 := (own_ne_lo (Nat.lt_of_lt_of_le (Nat.lt_of_lt_of_le (Nat.lt_of_lt_of_le (Nat.lt_of_lt_of_le (Nat.lt_of_lt_of_le (Nat.lt_of_lt_of_le (Nat.lt_of_lt_of_le A199.lt K207.1) K222.1) K243.1) K258.1) K272.1) K286.1) E840.1) f864)
          have F932 := (((f868.keep K891 (ninS (Ne.symm ne931) (ninS (Ne.symm ne930) nin0))).keep K905 (ninS (Ne.symm ne931) (ninS (Ne.symm ne930) nin0))).keep K919 (ninS (Ne.symm ne931) (ninS (Ne.symm ne930) nin0)))
          have ne933 : o223 ≠ o859 := (own_ne_lo (Nat.lt_of_lt_of_le (Nat.lt_of_lt_of_le (Nat.lt_of_lt_of_le (Nat.lt_of_lt_of_le (Nat.lt_of_lt_of_le f230.lt K243.1) K258.1) K272.1) K286.1) E840.1) f863)
          have ne934 : b199 ≠ o859 := (own_ne_lo (Nat.lt_of_lt_of_le (Nat.lt_of_lt_of_le (Nat.lt_of_lt_of_le (Nat.lt_of_lt_of_le (Nat.lt_of_lt_of_le (Nat.lt_of_lt_of_le (Nat.lt_of_lt_of_le A199.lt K207.1) K222.1) K243.1) K258.1) K272.1) K286.1) E840.1) f863)
          have F935 := (((f867.keep K891 (ninS (Ne.symm ne934) (ninS (Ne.symm ne933) nin0))).keep K905 (ninS (Ne.symm ne934) (ninS (Ne.symm ne933) nin0))).keep K919 (ninS (Ne.symm ne934) (ninS (Ne.symm ne933) nin0)))
          have KEEP := (((KP876.trans K891 (allS (Or.inr z202) (allS (Or.inr z234) all0))).trans K905 (allS (Or.inr z202) (allS (Or.inr z234) all0))).trans K919 (allS (Or.inr z202) (allS (Or.inr z234) all0)))
          exact J1 _ _ _ b170 b199 b840 o859 o860 (5 : Int32) (own_wk X919 (lb rfl) (lb rfl)) rfl N919 KEEP z843 F927 F928 (Or.inl ⟨F929, F935, _, _, F932⟩) F929.lt F932.lt ⟨⟨5, by decide⟩, rfl⟩
         ·
          refine og T905 (mkF m 205 #[vI pi0, vI pi1, vI 5, vI (pi1 &&& (3 : Int32)), vR b170, vR b199, vR b840, vU, vU] []) (fun _ k => XS.icmpYes X905.here hx rfl (pc0 := 194) (pc' := 205) rfl (hb hby at_194) rfl (flt hc913).2.2.2 (by decide) (by decide) k) ?_
          have F936 := (((A840.keep K858).keep K891).keep K905)
          have F937 := ((f865.keep K891 (ninS (Ne.symm ne878) (ninS (Ne.symm ne886) nin0))).keep K905 (ninS (Ne.symm ne878) (ninS (Ne.symm ne886) nin0)))
          have F938 := ((f866.keep K891).keep K905)
          have ne939 : o223 ≠ o860 := (own_ne_lo (Nat.lt_of_lt_of_le (Nat.lt_of_lt_of_le (Nat.lt_of_lt_of_le (Nat.lt_of_lt_of_le (Nat.lt_of_lt_of_le f230.lt K243.1) K258.1) K272.1) K286.1) E840.1) f864)
          have ne940 : b199 ≠ o860 := (own_ne_lo (Nat.lt_of_lt_of_le (Nat.lt_of_lt_of_le (Nat.lt_of_lt_of_le (Nat.lt_of_lt_of_le (Nat.lt_of_lt_of_le (Nat.lt_of_lt_of_le (Nat.lt_of_lt_of_le A199.lt K207.1) K222.1) K243.1) K258.1) K272.1) K286.1) E840.1) f864)
          have F941 := ((f868.keep K891 (ninS (Ne.symm ne940) (ninS (Ne.symm ne939) nin0))).keep K905 (ninS (Ne.symm ne940) (ninS (Ne.symm ne939) nin0)))
          have ne942 : o223 ≠ o859 := (own_ne_lo (Nat.lt_of_lt_of_le (Nat.lt_of_lt_of_le (Nat.lt_of_lt_of_le (Nat.lt_of_lt_of_le (Nat.lt_of_lt_of_le f230.lt K243.1) K258.1) K272.1) K286.1) E840.1) f863)
          have ne943 : b199 ≠ o859 := (own_ne_lo (Nat.lt_of_lt_of_le (Nat.lt_of_lt_of_le (Nat.lt_of_lt_of_le (Nat.lt_of_lt_of_le (Nat.lt_of_lt_of_le (Nat.lt_of_lt_of_le (Nat.lt_of_lt_of_le A199.lt K207.1) K222.1) K243.1) K258.1) K272.1) K286.1) E840.1) f863)
          have F944 := ((f867.keep K891 (ninS (Ne.symm ne943) (ninS (Ne.symm ne942) nin0))).keep K905 (ninS (Ne.symm ne943) (ninS (Ne.symm ne942) nin0)))
          have KEEP := ((KP876.trans K891 (allS (Or.inr z202) (allS (Or.inr z234) all0))).trans K905 (allS (Or.inr z202) (allS (Or.inr z234) all0)))
          exact J1 _ _ _ b170 b199 b840 o859 o860 (5 : Int32) (own_wk X905 (lb rfl) (lb rfl)) rfl N905 KEEP z843 F936 F937 (Or.inl ⟨F938, F944, _, _, F941⟩) F938.lt F941.lt ⟨⟨5, by decide⟩, rfl⟩
        ·
         refine og T891 (mkF m 194 #[vI pi0, vI pi1, vI 5, vI (pi1 &&& (3 : Int32)), vR b170, vR b199, vR b840, vU, vU] [.int 2, (.int (pi1 &&& (3 : Int32)))]) (fun _ k => XS.icmpYes X891.here hx rfl (pc0 := 181) (pc' := 192) rfl (hb hby at_181) rfl (flt hc899).2.2.2 (by decide) (by decide) (XS.iloadN X891.here hx rfl (hb hby at_192) rfl (XS.iconst X891.here hx rfl (hb hby at_193) k))) ?_
         refine og T891 (mkF m 205 #[vI pi0, vI pi1, vI 5, vI (pi1 &&& (3 : Int32)), vR b170, vR b199, vR b840, vU, vU] []) (fun _ k => XS.icmpYes X891.here hx rfl (pc0 := 194) (pc' := 205) rfl (hb hby at_194) rfl (flt (own_nlt (a := (1 : Int32)) (by decide) hc899)).2.2.2 (by decide) (by decide) k) ?_
         have F945 := ((A840.keep K858).keep K891)
         have F946 := (f865.keep K891 (ninS (Ne.symm ne878) (ninS (Ne.symm ne886) nin0)))
         have F947 := (f866.keep K891)
         have ne948 : o223 ≠ o860 := (own_ne_lo (Nat.lt_of_lt_of_le (Nat.lt_of_lt_of_le (Nat.lt_of_lt_of_le (Nat.lt_of_lt_of_le (Nat.lt_of_lt_of_le f230.lt K243.1) K258.1) K272.1) K286.1) E840.1) f864)
         have ne949 : b199 ≠ o860 := (own_ne_lo (Nat.lt_of_lt_of_le (Nat.lt_of_lt_of_le (Nat.lt_of_lt_of_le (Nat.lt_of_lt_of_le (Nat.lt_of_lt_of_le (Nat.lt_of_lt_of_le (Nat.lt_of_lt_of_le A199.lt K207.1) K222.1) K243.1) K258.1) K272.1) K286.1) E840.1) f864)
         have F950 := (f868.keep K891 (ninS (Ne.symm ne949) (ninS (Ne.symm ne948) nin0)))
         have ne951 : o223 ≠ o859 := (own_ne_lo (Nat.lt_of_lt_of_le (Nat.lt_of_lt_of_le (Nat.lt_of_lt_of_le (Nat.lt_of_lt_of_le (Nat.lt_of_lt_of_le f230.lt K243.1) K258.1) K272.1) K286.1) E840.1) f863)
         have ne952 : b199 ≠ o859 := (own_ne_lo (Nat.lt_of_lt_of_le (Nat.lt_of_lt_of_le (Nat.lt_of_lt_of_le (Nat.lt_of_lt_of_le (Nat.lt_of_lt_of_le (Nat.lt_of_lt_of_le (Nat.lt_of_lt_of_le A199.lt K207.1) K222.1) K243.1) K258.1) K272.1) K286.1) E840.1) f863)
         have F953 := (f867.keep K891 (ninS (Ne.symm ne952) (ninS (Ne.symm ne951) nin0)))
         have KEEP := (KP876.trans K891 (allS (Or.inr z202) (allS (Or.inr z234) all0)))
         exact J1 _ _ _ b170 b199 b840 o859 o860 (5 : Int32) (own_wk X891 (lb rfl) (lb rfl)) rfl N891 KEEP z843 F945 F946 (Or.inl ⟨F947, F953, _, _, F950⟩) F947.lt F950.lt ⟨⟨5, by decide⟩, rfl⟩
       ·
        refine og T858 (mkF m 181 #[vI pi0, vI pi1, vI 5, vI (pi1 &&& (3 : Int32)), vR b170, vR b199, vR b840, vU, vU] [.int 1, (.int (pi1 &&& (3 : Int32)))]) (fun _ k => XS.ifYes X858.here hx rfl (pc0 := 168) (pc' := 179) rfl (hb hby at_168) rfl ((if0 _ _).trans (flt hc877).2.2.2) (by decide) (by decide) (XS.iloadN X858.here hx rfl (hb hby at_179) rfl (XS.iconst X858.here hx rfl (hb hby at_180) k))) ?_
        refine og T858 (mkF m 194 #[vI pi0, vI pi1, vI 5, vI (pi1 &&& (3 : Int32)), vR b170, vR b199, vR b840, vU, vU] [.int 2, (.int (pi1 &&& (3 : Int32)))]) (fun _ k => XS.icmpYes X858.here hx rfl (pc0 := 181) (pc' := 192) rfl (hb hby at_181) rfl (flt (own_nlt (a := (0 : Int32)) (by decide) hc877)).2.2.2 (by decide) (by decide) (XS.iloadN X858.here hx rfl (hb hby at_192) rfl (XS.iconst X858.here hx rfl (hb hby at_193) k))) ?_
        refine og T858 (mkF m 205 #[vI pi0, vI pi1, vI 5, vI (pi1 &&& (3 : Int32)), vR b170, vR b199, vR b840, vU, vU] []) (fun _ k => XS.icmpYes X858.here hx rfl (pc0 := 194) (pc' := 205) rfl (hb hby at_194) rfl (flt (own_nlt (a := (1 : Int32)) (by decide) (own_nlt (a := (0 : Int32)) (by decide) hc877))).2.2.2 (by decide) (by decide) k) ?_
        have F954 := (A840.keep K858)
        have KEEP := KP876
        exact J1 _ _ _ b170 b199 b840 o859 o860 (5 : Int32) (own_wk X858 (lb rfl) (lb rfl)) rfl N858 KEEP z843 F954 f865 (Or.inl ⟨f866, f867, _, _, f868⟩) f866.lt f868.lt ⟨⟨5, by decide⟩, rfl⟩
     ·
      have hm : nm = (4 : Int32) := own_eqk hc266 hc280 (by decide)
      rw [hm]
      refine og T272 (mkF m 142 #[vI pi0, vI pi1, vI 4, vI (pi1 &&& (3 : Int32)), vR b170, vR b199, vU, vU, vU] []) (fun _ k => XS.icmpYes X272.here hx rfl (pc0 := 90) (pc' := 101) rfl (hb hby at_90) rfl (flt (by decide : ¬ ((4 : Int32) < (4 : Int32)))).2.2.2 (by decide) (by decide) (XS.iloadN X272.here hx rfl (hb hby at_101) rfl (XS.iconst X272.here hx rfl (hb hby at_102) (XS.icmpYes X272.here hx rfl (pc0 := 103) (pc' := 114) rfl (hb hby at_103) rfl (flt (by decide : ¬ ((5 : Int32) < (4 : Int32)))).2.2.2 (by decide) (by decide) (XS.iloadN X272.here hx rfl (hb hby at_114) rfl (XS.bipush X272.here hx rfl (hb hby at_115) (XS.icmpYes X272.here hx rfl (pc0 := 117) (pc' := 128) rfl (hb hby at_117) rfl (flt (by decide : ¬ ((6 : Int32) < (4 : Int32)))).2.2.2 (by decide) (by decide) (XS.iloadN X272.here hx rfl (hb hby at_128) rfl (XS.bipush X272.here hx rfl (hb hby at_129) (XS.icmpYes X272.here hx rfl (pc0 := 131) (pc' := 142) rfl (hb hby at_131) rfl (flt (by decide : ¬ ((7 : Int32) < (4 : Int32)))).2.2.2 (by decide) (by decide) k)))))))))) ?_
      refine og T272 (mkF m 156 #[vI pi0, vI pi1, vI 4, vI (pi1 &&& (3 : Int32)), vR b170, vR b199, vU, vU, vU] []) (fun _ k => XS.iloadN X272.here hx rfl (hb hby at_142) rfl (XS.bipush X272.here hx rfl (hb hby at_143) (XS.icmpYes X272.here hx rfl (pc0 := 145) (pc' := 156) rfl (hb hby at_145) rfl (flt (by decide : ¬ ((8 : Int32) < (4 : Int32)))).2.2.2 (by decide) (by decide) k))) ?_
      have K956 := ((((KP214.trans K222 (allS (Or.inr z202) all0)).trans K243 (allS (Or.inr z202) (allS (Or.inr z234) all0))).trans K258 (allS (Or.inr z202) (allS (Or.inr z234) all0))).trans K272 (allS (Or.inr z202) (allS (Or.inr z234) all0)))
      have KP955 := K956
      obtain ⟨T957, h957, X957, e957, E957, A957, D957, U957, st957⟩ := newO X272 hx hZ hown (ow hw 1) (ow hw 2) (ow hw 3) rfl (g := (mkF m 156 #[vI pi0, vI pi1, vI 4, vI (pi1 &&& (3 : Int32)), vR b170, vR b199, vU, vU, vU] [])) rfl (hb hby at_156) (lb rfl) (lb rfl)
      obtain ⟨b957, gb957⟩ : ∃ z, z = T272.heap.size := ⟨_, rfl⟩
      rw [← gb957] at A957 D957 U957 st957
      have F959 := (F271.keep K272 (allS g200 (allS g233 all0)))
      have g958 : n0 ≤ b957 := Nat.le_trans (own_osz F959) (Nat.le_of_eq gb957.symm)
      have F961 := (Nat.le_trans (Nat.le_trans (Nat.le_trans (Nat.le_trans F235 K222.1) K243.1) K258.1) K272.1)
      have z960 : h0.size ≤ b957 := Nat.le_trans F961 (Nat.le_of_eq gb957.symm)
      have ch962 := CHr.ext E957 CH279.1
      have CH963 := CHr.trans CH279 ch962
      refine og T957 (mkF m 162 #[vI pi0, vI pi1, vI 4, vI (pi1 &&& (3 : Int32)), vR b170, vR b199, vU, vU, vU] [.ref b199, .ref b957, .ref b957]) (fun _ k => st957 _ (XS.dup X957.here hx rfl (hb hby at_159) rfl rfl (XS.aload X957.here hx rfl (hb hby at_160) rfl rfl k))) ?_
      have F964 := (f273.ext E957)
      have F965 := ((F267.keep K272).ext E957)
      have F966 := (f274.ext E957)
      have F967 := ((F268.keep K272).ext E957)
      have F968 := ((F269.keep K272).ext E957)
      have F969 := ((F270.keep K272 (ninS ne219 (ninS ne255 nin0))).ext E957)
      have F970 := (f277.ext E957)
      have F971 := (f275.ext E957)
      have F972 := (f276.ext E957)
      have F973 := (F959.ext E957)
      obtain ⟨_, T974, L974, X974, hQ974, st974⟩ := own_sc X957 hx hZ rfl hown (ow hw 30) (ow hw 31) (rm5_90 l Z a0 hw b957 b199 o223 kc224 b170 el ee kee em mo h957 n0 F973 EE0 FE0 VE0 A957 (D957 (Or.inr (ow hw 64)) (ty := (.object "java/util/List")) (by decide)) F964 F965 F966 F967 F968 F969 F970 f232 F971 F972 EM0 Mmo SM0 SE0 (own_ne_lo (Nat.lt_of_lt_of_le A199.lt K207.1) f225) g958) (ow hw 32) (ow hw 3) e957 (g := (mkF m 162 #[vI pi0, vI pi1, vI 4, vI (pi1 &&& (3 : Int32)), vR b170, vR b199, vU, vU, vU] [.ref b199, .ref b957, .ref b957])) rfl (zs hml) (argsL := [.ref b199]) (rest := [.ref b957]) (lenOf pd_27 rfl) rfl (hb hby at_162) (W := 1) rfl
      obtain ⟨o975, o976, kc977, vq978, rfl, Nq974, K974, f979, f980, f981, f982, f983, f984⟩ := hQ974
      have N974 := Fr.app N272 Nq974
      have g985 : n0 ≤ o975 := Nat.le_trans (own_osz F973) f979
      have F987 := (Nat.le_trans F961 E957.1)
      have z986 : h0.size ≤ o975 := Nat.le_trans F987 f979
      have g988 : n0 ≤ o976 := Nat.le_trans (own_osz F973) f980
      have z989 : h0.size ≤ o976 := Nat.le_trans F987 f980
      have ch990 := CHr.keep K974 (allS (Safe.exa hZ.alike A957 (by decide) (by decide)) all0) CH963.1
      have CH991 := CHr.trans CH963 ch990
      refine og T974 (mkF m 167 #[vI pi0, vI pi1, vI 4, vI (pi1 &&& (3 : Int32)), vR b170, vR b199, vR b957, vU, vU] []) (fun _ k => st974.trans (XS.astore X974.here hx rfl (hb hby at_165) rfl rfl (l' := #[vI pi0, vI pi1, vI 4, vI (pi1 &&& (3 : Int32)), vR b170, vR b199, vR b957, vU, vU]) rfl k)) ?_
      have KP992 := ((KP955.ext E957).trans K974 (allS (Or.inr z960) all0))
      refine og T974 (mkF m 168 #[vI pi0, vI pi1, vI 4, vI (pi1 &&& (3 : Int32)), vR b170, vR b199, vR b957, vU, vU] [(.int (pi1 &&& (3 : Int32)))]) (fun _ k => XS.iloadN X974.here hx rfl (hb hby at_167) rfl k) ?_
      by_cases hc993 : (0 : Int32) < (pi1 &&& (3 : Int32))
      ·
       refine og T974 (mkF m 175 #[vI pi0, vI pi1, vI 4, vI (pi1 &&& (3 : Int32)), vR b170, vR b199, vR b957, vU, vU] [.ref b170, .ref b199]) (fun _ k => XS.ifNo X974.here hx rfl (hb hby at_168) rfl ((if0 _ _).trans (tlt hc993).2.2.2) (XS.aload X974.here hx rfl (hb hby at_171) rfl rfl (XS.aload X974.here hx rfl (hb hby at_173) rfl rfl k))) ?_
       have ne994 : b199 ≠ b957 := (own_ne_lo (Nat.lt_of_lt_of_le (Nat.lt_of_lt_of_le (Nat.lt_of_lt_of_le (Nat.lt_of_lt_of_le (Nat.lt_of_lt_of_le A199.lt K207.1) K222.1) K243.1) K258.1) K272.1) (Nat.le_of_eq gb957.symm))
       have F995 := (F964.keep K974 (ninS ne994 nin0))
       have F996 := (F965.keep K974)
       have F997 := (F966.keep K974 (ninS ne994 nin0))
       have F998 := (F967.keep K974)
       have F999 := (F968.keep K974)
       have ne1000 : b170 ≠ b957 := (own_ne_lo (Nat.lt_of_lt_of_le (Nat.lt_of_lt_of_le (Nat.lt_of_lt_of_le (Nat.lt_of_lt_of_le (Nat.lt_of_lt_of_le (Nat.lt_of_lt_of_le (Nat.lt_of_lt_of_le (Nat.lt_of_lt_of_le (Nat.lt_of_lt_of_le A170.lt E175.1) K183.1) K194.1) E199.1) K207.1) K222.1) K243.1) K258.1) K272.1) (Nat.le_of_eq gb957.symm))
       have F1001 := (F969.keep K974 (ninS ne1000 nin0))
       have ne1002 : o223 ≠ b957 := (own_ne_lo (Nat.lt_of_lt_of_le (Nat.lt_of_lt_of_le (Nat.lt_of_lt_of_le f230.lt K243.1) K258.1) K272.1) (Nat.le_of_eq gb957.symm))
       have F1003 := (F970.keep K974 (ninS ne1002 nin0))
       have F1004 := (F971.keep K974 (ninS ne994 nin0))
       have F1005 := (F972.keep K974 (ninS ne994 nin0))
       have F1006 := (F973.keep K974 (allS g958 all0))
       obtain ⟨_, T1007, L1007, X1007, hQ1007, st1007⟩ := own_vc X974 hx hZ hown (ow hw 65) (ow hw 66) (ow hw 68) (ow hw 67) F996 (rm10_62 l Z a0 hw b199 o223 kc224 b170 el ee kee T974.heap n0 F1006 EE0 FE0 VE0 F995 F996 F997 F998 F999 F1001 F1003 f232 F1004 F1005 g200 ne219 (Ne.symm (own_ne_lo (Nat.lt_of_lt_of_le A199.lt K207.1) f225)) g233) (ow hw 69) (ow hw 6) rfl (g := (mkF m 175 #[vI pi0, vI pi1, vI 4, vI (pi1 &&& (3 : Int32)), vR b170, vR b199, vR b957, vU, vU] [.ref b170, .ref b199])) rfl (zs hml) (argsL := [.ref b170]) (rest := []) (lenOf pd_24 rfl) rfl (hb hby at_175) (W := 0) rfl
       obtain ⟨rfl, Nq1007, K1007, f1008, f1009, f1010, f1011, f1012⟩ := hQ1007
       have N1007 := Fr.app N974 Nq1007
       have ch1013 := CHr.keep K1007 (allS (Safe.exa hZ.alike F996 (by decide) (by decide)) (allS (Safe.exa hZ.alike F998 (by decide) (by decide)) all0)) CH991.1
       have CH1014 := CHr.trans CH991 ch1013
       refine og T1007 (mkF m 181 #[vI pi0, vI pi1, vI 4, vI (pi1 &&& (3 : Int32)), vR b170, vR b199, vR b957, vU, vU] [.int 1, (.int (pi1 &&& (3 : Int32)))]) (fun _ k => st1007.trans (XS.pop X1007.here hx rfl (hb hby at_178) rfl rfl (XS.iloadN X1007.here hx rfl (hb hby at_179) rfl (XS.iconst X1007.here hx rfl (hb hby at_180) k)))) ?_
       by_cases hc1015 : (1 : Int32) < (pi1 &&& (3 : Int32))
       ·
        refine og T1007 (mkF m 188 #[vI pi0, vI pi1, vI 4, vI (pi1 &&& (3 : Int32)), vR b170, vR b199, vR b957, vU, vU] [.ref b170, .ref b199]) (fun _ k => XS.icmpNo X1007.here hx rfl (hb hby at_181) rfl (tlt hc1015).2.2.2 (XS.aload X1007.here hx rfl (hb hby at_184) rfl rfl (XS.aload X1007.here hx rfl (hb hby at_186) rfl rfl k))) ?_
        have F1016 := (F996.keep K1007)
        have F1017 := (F998.keep K1007)
        have F1018 := (F999.keep K1007)
        have F1019 := (F1001.keep K1007 (ninS ne219 (ninS ne255 nin0)))
        have F1020 := (F1006.keep K1007 (allS g200 (allS g233 all0)))
        obtain ⟨_, T1021, L1021, X1021, hQ1021, st1021⟩ := own_vc X1007 hx hZ hown (ow hw 65) (ow hw 66) (ow hw 68) (ow hw 67) F1016 (rm10_64 l Z a0 hw b199 o223 kc224 b170 el ee kee T1007.heap n0 F1020 EE0 FE0 VE0 f1008 F1016 f1009 F1017 F1018 F1019 f1012 f232 f1010 f1011 g200 ne219 (Ne.symm (own_ne_lo (Nat.lt_of_lt_of_le A199.lt K207.1) f225)) g233) (ow hw 69) (ow hw 6) rfl (g := (mkF m 188 #[vI pi0, vI pi1, vI 4, vI (pi1 &&& (3 : Int32)), vR b170, vR b199, vR b957, vU, vU] [.ref b170, .ref b199])) rfl (zs hml) (argsL := [.ref b170]) (rest := []) (lenOf pd_24 rfl) rfl (hb hby at_188) (W := 0) rfl
        obtain ⟨rfl, Nq1021, K1021, f1022, f1023, f1024, f1025, f1026⟩ := hQ1021
        have N1021 := Fr.app N1007 Nq1021
        have ch1027 := CHr.keep K1021 (allS (Safe.exa hZ.alike F1016 (by decide) (by decide)) (allS (Safe.exa hZ.alike F1017 (by decide) (by decide)) all0)) CH1014.1
        have CH1028 := CHr.trans CH1014 ch1027
        refine og T1021 (mkF m 194 #[vI pi0, vI pi1, vI 4, vI (pi1 &&& (3 : Int32)), vR b170, vR b199, vR b957, vU, vU] [.int 2, (.int (pi1 &&& (3 : Int32)))]) (fun _ k => st1021.trans (XS.pop X1021.here hx rfl (hb hby at_191) rfl rfl (XS.iloadN X1021.here hx rfl (hb hby at_192) rfl (XS.iconst X1021.here hx rfl (hb hby at_193) k)))) ?_
        by_cases hc1029 : (2 : Int32) < (pi1 &&& (3 : Int32))
        ·
         refine og T1021 (mkF m 201 #[vI pi0, vI pi1, vI 4, vI (pi1 &&& (3 : Int32)), vR b170, vR b199, vR b957, vU, vU] [.ref b170, .ref b199]) (fun _ k => XS.icmpNo X1021.here hx rfl (hb hby at_194) rfl (tlt hc1029).2.2.2 (XS.aload X1021.here hx rfl (hb hby at_197) rfl rfl (XS.aload X1021.here hx rfl (hb hby at_199) rfl rfl k))) ?_
         have F1030 := (F1016.keep K1021)
         have F1031 := (F1017.keep K1021)
         have F1032 := (F1018.keep K1021)
         have F1033 := (F1019.keep K1021 (ninS ne219 (ninS ne255 nin0)))
         have F1034 := (F1020.keep K1021 (allS g200 (allS g233 all0)))
         obtain ⟨_, T1035, L1035, X1035, hQ1035, st1035⟩ := own_vc X1021 hx hZ hown (ow hw 65) (ow hw 66) (ow hw 68) (ow hw 67) F1030 (rm10_66 l Z a0 hw b199 o223 kc224 b170 el ee kee T1021.heap n0 F1034 EE0 FE0 VE0 f1022 F1030 f1023 F1031 F1032 F1033 f1026 f232 f1024 f1025 g200 ne219 (Ne.symm (own_ne_lo (Nat.lt_of_lt_of_le A199.lt K207.1) f225)) g233) (ow hw 69) (ow hw 6) rfl (g := (mkF m 201 #[vI pi0, vI pi1, vI 4, vI (pi1 &&& (3 : Int32)), vR b170, vR b199, vR b957, vU, vU] [.ref b170, .ref b199])) rfl (zs hml) (argsL := [.ref b170]) (rest := []) (lenOf pd_24 rfl) rfl (hb hby at_201) (W := 0) rfl
         obtain ⟨rfl, Nq1035, K1035, f1036, f1037, f1038, f1039, f1040⟩ := hQ1035
         have N1035 := Fr.app N1021 Nq1035
         have ch1041 := CHr.keep K1035 (allS (Safe.exa hZ.alike F1030 (by decide) (by decide)) (allS (Safe.exa hZ.alike F1031 (by decide) (by decide)) all0)) CH1028.1
         have CH1042 := CHr.trans CH1028 ch1041
         refine og T1035 (mkF m 205 #[vI pi0, vI pi1, vI 4, vI (pi1 &&& (3 : Int32)), vR b170, vR b199, vR b957, vU, vU] []) (fun _ k => st1035.trans (XS.pop X1035.here hx rfl (hb hby at_204) rfl rfl k)) ?_
         have F1043 := ((((A957.keep K974).keep K1007).keep K1021).keep K1035)
         have F1044 := (((f981.keep K1007 (ninS (Ne.symm ne994) (ninS (Ne.symm ne1002) nin0))).keep K1021 (ninS (Ne.symm ne994) (ninS (Ne.symm ne1002) nin0))).keep K1035 (ninS (Ne.symm ne994) (ninS (Ne.symm ne1002) nin0)))
         have F1045 := (((f982.keep K1007).keep K1021).keep K1035)
         have ne1046 : o223 ≠ o976 := (own_ne_lo (Nat.lt_of_lt_of_le (Nat.lt_of_lt_of_le (Nat.lt_of_lt_of_le (Nat.lt_of_lt_of_le f230.lt K243.1) K258.1) K272.1) E957.1) f980)
         have ne1047 : b199 ≠ o976 := (own_ne_lo (Nat.lt_of_lt_of_le (Nat.lt_of_lt_of_le (Nat.lt_of_lt_of_le (Nat.lt_of_lt_of_le (Nat.lt_of_lt_of_le (Nat.lt_of_lt_of_le A199.lt K207.1) K222.1) K243.1) K258.1) K272.1) E957.1) f980)
         have F1048 := (((f984.keep K1007 (ninS (Ne.symm ne1047) (ninS (Ne.symm ne1046) nin0))).keep K1021 (ninS (Ne.symm ne1047) (ninS (Ne.symm ne1046) nin0))).keep K1035 (ninS (Ne.symm ne1047) (ninS (Ne.symm ne1046) nin0)))
         have ne1049 : o223 ≠ o975 := (own_ne_lo (Nat.lt_of_lt_of_le (Nat.lt_of_lt_of_le (Nat.lt_of_lt_of_le (Nat.lt_of_lt_of_le f230.lt K243.1) K258.1) K272.1) E957.1) f979)
         have ne1050 : b199 ≠ o975 := (own_ne_lo (Nat.lt_of_lt_of_le (Nat.lt_of_lt_of_le (Nat.lt_of_lt_of_le (Nat.lt_of_lt_of_le (Nat.lt_of_lt_of_le (Nat.lt_of_lt_of_le A199.lt K207.1) K222.1) K243.1) K258.1) K272.1) E957.1) f979)
         have F1051 := (((f983.keep K1007 (ninS (Ne.symm ne1050) (ninS (Ne.symm ne1049) nin0))).keep K1021 (ninS (Ne.symm ne1050) (ninS (Ne.symm ne1049) nin0))).keep K1035 (ninS (Ne.symm ne1050) (ninS (Ne.symm ne1049) nin0)))
         have KEEP := (((KP992.trans K1007 (allS (Or.inr z202) (allS (Or.inr z234) all0))).trans K1021 (allS (Or.inr z202) (allS (Or.inr z234) all0))).trans K1035 (allS (Or.inr z202) (allS (Or.inr z234) all0)))
         exact J1 _ _ _ b170 b199 b957 o975 o976 (4 : Int32) (own_wk X1035 (lb rfl) (lb rfl)) rfl N1035 KEEP z960 F1043 F1044 (Or.inl ⟨F1045, F1051, _, _, F1048⟩) F1045.lt F1048.lt ⟨⟨4, by decide⟩, rfl⟩
        ·
         refine og T1021 (mkF m 205 #[vI pi0, vI pi1, vI 4, vI (pi1 &&& (3 : Int32)), vR b170, vR b199, vR b957, vU, vU] []) (fun _ k => XS.icmpYes X1021.here hx rfl (pc0 := 194) (pc' := 205) rfl (hb hby at_194) rfl (flt hc1029).2.2.2 (by decide) (by decide) k) ?_
         have F1052 := (((A957.keep K974).keep K1007).keep K1021)
         have F1053 := ((f981.keep K1007 (ninS (Ne.symm ne994) (ninS (Ne.symm ne1002) nin0))).keep K1021 (ninS (Ne.symm ne994) (ninS (Ne.symm ne1002) nin0)))
         have F1054 := ((f982.keep K1007).keep K1021)
         have ne1055 : o223 ≠ o976 := (own_ne_lo (Nat.lt_of_lt_of_le (Nat.lt_of_lt_of_le (Nat.lt_of_lt_of_le (Nat.lt_of_lt_of_le f230.lt K243.1) K258.1) K272.1) E957.1) f980)
         have ne1056 : b199 ≠ o976 := (own_ne_lo (Nat.lt_of_lt_of_le (Nat.lt_of_lt_of_le (Nat.lt_of_lt_of_le (Nat.lt_of_lt_of_le (Nat.lt_of_lt_of_le (Nat.lt_of_lt_of_le A199.lt K207.1) K222.1) K243.1) K258.1) K272.1) E957.1) f980)
         have F1057 := ((f984.keep K1007 (ninS (Ne.symm ne1056) (ninS (Ne.symm ne1055) nin0))).keep K1021 (ninS (Ne.symm ne1056) (ninS (Ne.symm ne1055) nin0)))
         have ne1058 : o223 ≠ o975 := (own_ne_lo (Nat.lt_of_lt_of_le (Nat.lt_of_lt_of_le (Nat.lt_of_lt_of_le (Nat.lt_of_lt_of_le f230.lt K243.1) K258.1) K272.1) E957.1) f979)
         have ne1059 : b199 ≠ o975 := (own_ne_lo (Nat.lt_of_lt_of_le (Nat.lt_of_lt_of_le (Nat.lt_of_lt_of_le (Nat.lt_of_lt_of_le (Nat.lt_of_lt_of_le (Nat.lt_of_lt_of_le A199.lt K207.1) K222.1) K243.1) K258.1) K272.1) E957.1) f979)
         have F1060 := ((f983.keep K1007 (ninS (Ne.symm ne1059) (ninS (Ne.symm ne1058) nin0))).keep K1021 (ninS (Ne.symm ne1059) (ninS (Ne.symm ne1058) nin0)))
         have KEEP := ((KP992.trans K1007 (allS (Or.inr z202) (allS (Or.inr z234) all0))).trans K1021 (allS (Or.inr z202) (allS (Or.inr z234) all0)))
         exact J1 _ _ _ b170 b199 b957 o975 o976 (4 : Int32) (own_wk X1021 (lb rfl) (lb rfl)) rfl N1021 KEEP z960 F1052 F1053 (Or.inl ⟨F1054, F1060, _, _, F1057⟩) F1054.lt F1057.lt ⟨⟨4, by decide⟩, rfl⟩
       ·
        refine og T1007 (mkF m 194 #[vI pi0, vI pi1, vI 4, vI (pi1 &&& (3 : Int32)), vR b170, vR b199, vR b957, vU, vU] [.int 2, (.int (pi1 &&& (3 : Int32)))]) (fun _ k => XS.icmpYes X1007.here hx rfl (pc0 := 181) (pc' := 192) rfl (hb hby at_181) rfl (flt hc1015).2.2.2 (by decide) (by decide) (XS.iloadN X1007.here hx rfl (hb hby at_192) rfl (XS.iconst X1007.here hx rfl (hb hby at_193) k))) ?_
        refine og T1007 (mkF m 205 #[vI pi0, vI pi1, vI 4, vI (pi1 &&& (3 : Int32)), vR b170, vR b199, vR b957, vU, vU] []) (fun _ k => XS.icmpYes X1007.here hx rfl (pc0 := 194) (pc' := 205) rfl (hb hby at_194) rfl (flt (own_nlt (a := (1 : Int32)) (by decide) hc1015)).2.2.2 (by decide) (by decide) k) ?_
        have F1061 := ((A957.keep K974).keep K1007)
        have F1062 := (f981.keep K1007 (ninS (Ne.symm ne994) (ninS (Ne.symm ne1002) nin0)))
        have F1063 := (f982.keep K1007)
        have ne1064 : o223 ≠ o976 := (own_ne_lo (Nat.lt_of_lt_of_le (Nat.lt_of_lt_of_le (Nat.lt_of_lt_of_le (Nat.lt_of_lt_of_le f230.lt K243.1) K258.1) K272.1) E957.1) f980)
        have ne1065 : b199 ≠ o976 := (own_ne_lo (Nat.lt_of_lt_of_le (Nat.lt_of_lt_of_le (Nat.lt_of_lt_of_le (Nat.lt_of_lt_of_le (Nat.lt_of_lt_of_le (Nat.lt_of_lt_of_le A199.lt K207.1) K222.1) K243.1) K258.1) K272.1) E957.1) f980)
        have F1066 := (f984.keep K1007 (ninS (Ne.symm ne1065) (ninS (Ne.symm ne1064) nin0)))
        have ne1067 : o223 ≠ o975 := (own_ne_lo (Nat.lt_of_lt_of_le (Nat.lt_of_lt_of_le (Nat.lt_of_lt_of_le (Nat.lt_of_lt_of_le f230.lt K243.1) K258.1) K272.1) E957.1) f979)
        have ne1068 : b199 ≠ o975 := (own_ne_lo (Nat.lt_of_lt_of_le (Nat.lt_of_lt_of_le (Nat.lt_of_lt_of_le (Nat.lt_of_lt_of_le (Nat.lt_of_lt_of_le (Nat.lt_of_lt_of_le A199.lt K207.1) K222.1) K243.1) K258.1) K272.1) E957.1) f979)
        have F1069 := (f983.keep K1007 (ninS (Ne.symm ne1068) (ninS (Ne.symm ne1067) nin0)))
        have KEEP := (KP992.trans K1007 (allS (Or.inr z202) (allS (Or.inr z234) all0)))
        exact J1 _ _ _ b170 b199 b957 o975 o976 (4 : Int32) (own_wk X1007 (lb rfl) (lb rfl)) rfl N1007 KEEP z960 F1061 F1062 (Or.inl ⟨F1063, F1069, _, _, F1066⟩) F1063.lt F1066.lt ⟨⟨4, by decide⟩, rfl⟩
      ·
       refine og T974 (mkF m 181 #[vI pi0, vI pi1, vI 4, vI (pi1 &&& (3 : Int32)), vR b170, vR b199, vR b957, vU, vU] [.int 1, (.int (pi1 &&& (3 : Int32)))]) (fun _ k => XS.ifYes X974.here hx rfl (pc0 := 168) (pc' := 179) rfl (hb hby at_168) rfl ((if0 _ _).trans (flt hc993).2.2.2) (by decide) (by decide) (XS.iloadN X974.here hx rfl (hb hby at_179) rfl (XS.iconst X974.here hx rfl (hb hby at_180) k))) ?_
       refine og T974 (mkF m 194 #[vI pi0, vI pi1, vI 4, vI (pi1 &&& (3 : Int32)), vR b170, vR b199, vR b957, vU, vU] [.int 2, (.int (pi1 &&& (3 : Int32)))]) (fun _ k => XS.icmpYes X974.here hx rfl (pc0 := 181) (pc' := 192) rfl (hb hby at_181) rfl (flt (own_nlt (a := (0 : Int32)) (by decide) hc993)).2.2.2 (by decide) (by decide) (XS.iloadN X974.here hx rfl (hb hby at_192) rfl (XS.iconst X974.here hx rfl (hb hby at_193) k))) ?_
       refine og T974 (mkF m 205 #[vI pi0, vI pi1, vI 4, vI (pi1 &&& (3 : Int32)), vR b170, vR b199, vR b957, vU, vU] []) (fun _ k => XS.icmpYes X974.here hx rfl (pc0 := 194) (pc' := 205) rfl (hb hby at_194) rfl (flt (own_nlt (a := (1 : Int32)) (by decide) (own_nlt (a := (0 : Int32)) (by decide) hc993))).2.2.2 (by decide) (by decide) k) ?_
       have F1070 := (A957.keep K974)
       have KEEP := KP992
       exact J1 _ _ _ b170 b199 b957 o975 o976 (4 : Int32) (own_wk X974 (lb rfl) (lb rfl)) rfl N974 KEEP z960 F1070 f981 (Or.inl ⟨f982, f983, _, _, f984⟩) f982.lt f984.lt ⟨⟨4, by decide⟩, rfl⟩
    ·
     have hm : nm = (3 : Int32) := own_eqk hc251 hc266 (by decide)
     rw [hm]
     refine og T258 (mkF m 128 #[vI pi0, vI pi1, vI 3, vI (pi1 &&& (3 : Int32)), vR b170, vR b199, vU, vU, vU] []) (fun _ k => XS.icmpYes X258.here hx rfl (pc0 := 77) (pc' := 88) rfl (hb hby at_77) rfl (flt (by decide : ¬ ((3 : Int32) < (3 : Int32)))).2.2.2 (by decide) (by decide) (XS.iloadN X258.here hx rfl (hb hby at_88) rfl (XS.iconst X258.here hx rfl (hb hby at_89) (XS.icmpYes X258.here hx rfl (pc0 := 90) (pc' := 101) rfl (hb hby at_90) rfl (flt (by decide : ¬ ((4 : Int32) < (3 : Int32)))).2.2.2 (by decide) (by decide) (XS.iloadN X258.here hx rfl (hb hby at_101) rfl (XS.iconst X258.here hx rfl (hb hby at_102) (XS.icmpYes X258.here hx rfl (pc0 := 103) (pc' := 114) rfl (hb hby at_103) rfl (flt (by decide : ¬ ((5 : Int32) < (3 : Int32)))).2.2.2 (by decide) (by decide) (XS.iloadN X258.here hx rfl (hb hby at_114) rfl (XS.bipush X258.here hx rfl (hb hby at_115) (XS.icmpYes X258.here hx rfl (pc0 := 117) (pc' := 128) rfl (hb hby at_117) rfl (flt (by decide : ¬ ((6 : Int32) < (3 : Int32)))).2.2.2 (by decide) (by decide) k)))))))))) ?_
     refine og T258 (mkF m 156 #[vI pi0, vI pi1, vI 3, vI (pi1 &&& (3 : Int32)), vR b170, vR b199, vU, vU, vU] []) (fun _ k => XS.iloadN X258.here hx rfl (hb hby at_128) rfl (XS.bipush X258.here hx rfl (hb hby at_129) (XS.icmpYes X258.here hx rfl (pc0 := 131) (pc' := 142) rfl (hb hby at_131) rfl (flt (by decide : ¬ ((7 : Int32) < (3 : Int32)))).2.2.2 (by decide) (by decide) (XS.iloadN X258.here hx rfl (hb hby at_142) rfl (XS.bipush X258.here hx rfl (hb hby at_143) (XS.icmpYes X258.here hx rfl (pc0 := 145) (pc' := 156) rfl (hb hby at_145) rfl (flt (by decide : ¬ ((8 : Int32) < (3 : Int32)))).2.2.2 (by decide) (by decide) k)))))) ?_
     have KP1071 := (((KP214.trans K222 (allS (Or.inr z202) all0)).trans K243 (allS (Or.inr z202) (allS (Or.inr z234) all0))).trans K258 (allS (Or.inr z202) (allS (Or.inr z234) all0)))
     obtain ⟨T1072, h1072, X1072, e1072, E1072, A1072, D1072, U1072, st1072⟩ := newO X258 hx hZ hown (ow hw 1) (ow hw 2) (ow hw 3) rfl (g := (mkF m 156 #[vI pi0, vI pi1, vI 3, vI (pi1 &&& (3 : Int32)), vR b170, vR b199, vU, vU, vU] [])) rfl (hb hby at_156) (lb rfl) (lb rfl)
     obtain ⟨b1072, gb1072⟩ : ∃ z, z = T258.heap.size := ⟨_, rfl⟩
     rw [← gb1072] at A1072 D1072 U1072 st1072
     have F1074 := (F257.keep K258 (allS g200 (allS g233 all0)))
     have g1073 : n0 ≤ b1072 := Nat.le_trans (own_osz F1074) (Nat.le_of_eq gb1072.symm)
     have F1076 := (Nat.le_trans (Nat.le_trans (Nat.le_trans F235 K222.1) K243.1) K258.1)
     have z1075 : h0.size ≤ b1072 := Nat.le_trans F1076 (Nat.le_of_eq gb1072.symm)
     have ch1077 := CHr.ext E1072 CH265.1
     have CH1078 := CHr.trans CH265 ch1077
     refine og T1072 (mkF m 162 #[vI pi0, vI pi1, vI 3, vI (pi1 &&& (3 : Int32)), vR b170, vR b199, vU, vU, vU] [.ref b199, .ref b1072, .ref b1072]) (fun _ k => st1072 _ (XS.dup X1072.here hx rfl (hb hby at_159) rfl rfl (XS.aload X1072.here hx rfl (hb hby at_160) rfl rfl k))) ?_
     have F1079 := (f259.ext E1072)
     have F1080 := ((F252.keep K258).ext E1072)
     have F1081 := (f260.ext E1072)
     have F1082 := ((F253.keep K258).ext E1072)
     have F1083 := ((F254.keep K258).ext E1072)
     have F1084 := ((F256.keep K258 (ninS ne219 (ninS ne255 nin0))).ext E1072)
     have F1085 := (f263.ext E1072)
     have F1086 := (f261.ext E1072)
     have F1087 := (f262.ext E1072)
     have F1088 := (F1074.ext E1072)
     obtain ⟨_, T1089, L1089, X1089, hQ1089, st1089⟩ := own_sc X1072 hx hZ rfl hown (ow hw 30) (ow hw 31) (rm5_91 l Z a0 hw b1072 b199 o223 kc224 b170 el ee kee em mo h1072 n0 F1088 EE0 FE0 VE0 A1072 (D1072 (Or.inr (ow hw 64)) (ty := (.object "java/util/List")) (by decide)) F1079 F1080 F1081 F1082 F1083 F1084 F1085 f232 F1086 F1087 EM0 Mmo SM0 SE0 (own_ne_lo (Nat.lt_of_lt_of_le A199.lt K207.1) f225) g1073) (ow hw 32) (ow hw 3) e1072 (g := (mkF m 162 #[vI pi0, vI pi1, vI 3, vI (pi1 &&& (3 : Int32)), vR b170, vR b199, vU, vU, vU] [.ref b199, .ref b1072, .ref b1072])) rfl (zs hml) (argsL := [.ref b199]) (rest := [.ref b1072]) (lenOf pd_27 rfl) rfl (hb hby at_162) (W := 1) rfl
     obtain ⟨o1090, o1091, kc1092, vq1093, rfl, Nq1089, K1089, f1094, f1095, f1096, f1097, f1098, f1099⟩ := hQ1089
     have N1089 := Fr.app N258 Nq1089
     have g1100 : n0 ≤ o1090 := Nat.le_trans (own_osz F1088) f1094
     have F1102 := (Nat.le_trans F1076 E1072.1)
     have z1101 : h0.size ≤ o1090 := Nat.le_trans F1102 f1094
     have g1103 : n0 ≤ o1091 := Nat.le_trans (own_osz F1088) f1095
     have z1104 : h0.size ≤ o1091 := Nat.le_trans F1102 f1095
     have ch1105 := CHr.keep K1089 (allS (Safe.exa hZ.alike A1072 (by decide) (by decide)) all0) CH1078.1
     have CH1106 := CHr.trans CH1078 ch1105
     refine og T1089 (mkF m 167 #[vI pi0, vI pi1, vI 3, vI (pi1 &&& (3 : Int32)), vR b170, vR b199, vR b1072, vU, vU] []) (fun _ k => st1089.trans (XS.astore X1089.here hx rfl (hb hby at_165) rfl rfl (l' := #[vI pi0, vI pi1, vI 3, vI (pi1 &&& (3 : Int32)), vR b170, vR b199, vR b1072, vU, vU]) rfl k)) ?_
     have KP1107 := ((KP1071.ext E1072).trans K1089 (allS (Or.inr z1075) all0))
     refine og T1089 (mkF m 168 #[vI pi0, vI pi1, vI 3, vI (pi1 &&& (3 : Int32)), vR b170, vR b199, vR b1072, vU, vU] [(.int (pi1 &&& (3 : Int32)))]) (fun _ k => XS.iloadN X1089.here hx rfl (hb hby at_167) rfl k) ?_
     by_cases hc1108 : (0 : Int32) < (pi1 &&& (3 : Int32))
     ·
      refine og T1089 (mkF m 175 #[vI pi0, vI pi1, vI 3, vI (pi1 &&& (3 : Int32)), vR b170, vR b199, vR b1072, vU, vU] [.ref b170, .ref b199]) (fun _ k => XS.ifNo X1089.here hx rfl (hb hby at_168) rfl ((if0 _ _).trans (tlt hc1108).2.2.2) (XS.aload X1089.here hx rfl (hb hby at_171) rfl rfl (XS.aload X1089.here hx rfl (hb hby at_173) rfl rfl k))) ?_
      have ne1109 : b199 ≠ b1072 := (own_ne_lo (Nat.lt_of_lt_of_le (Nat.lt_of_lt_of_le (Nat.lt_of_lt_of_le (Nat.lt_of_lt_of_le A199.lt K207.1) K222.1) K243.1) K258.1) (Nat.le_of_eq gb1072.symm))
      have F1110 := (F1079.keep K1089 (ninS ne1109 nin0))
      have F1111 := (F1080.keep K1089)
      have F1112 := (F1081.keep K1089 (ninS ne1109 nin0))
      have F1113 := (F1082.keep K1089)
      have F1114 := (F1083.keep K1089)
      have ne1115 : b170 ≠ b1072 := (own_ne_lo (Nat.lt_of_lt_of_le (Nat.lt_of_lt_of_le (Nat.lt_of_lt_of_le (Nat.lt_of_lt_of_le (Nat.lt_of_lt_of_le (Nat.lt_of_lt_of_le (Nat.lt_of_lt_of_le (Nat.lt_of_lt_of_le A170.lt E175.1) K183.1) K194.1) E199.1) K207.1) K222.1) K243.1) K258.1) (Nat.le_of_eq gb1072.symm))
      have F1116 := (F1084.keep K1089 (ninS ne1115 nin0))
      have ne1117 : o223 ≠ b1072 := (own_ne_lo (Nat.lt_of_lt_of_le (Nat.lt_of_lt_of_le f230.lt K243.1) K258.1) (Nat.le_of_eq gb1072.symm))
      have F1118 := (F1085.keep K1089 (ninS ne1117 nin0))
      have F1119 := (F1086.keep K1089 (ninS ne1109 nin0))
      have F1120 := (F1087.keep K1089 (ninS ne1109 nin0))
      have F1121 := (F1088.keep K1089 (allS g1073 all0))
      obtain ⟨_, T1122, L1122, X1122, hQ1122, st1122⟩ := own_vc X1089 hx hZ hown (ow hw 65) (ow hw 66) (ow hw 68) (ow hw 67) F1111 (rm10_60 l Z a0 hw b199 o223 kc224 b170 el ee kee T1089.heap n0 F1121 EE0 FE0 VE0 F1110 F1111 F1112 F1113 F1114 F1116 F1118 f232 F1119 F1120 g200 ne219 (Ne.symm (own_ne_lo (Nat.lt_of_lt_of_le A199.lt K207.1) f225)) g233) (ow hw 69) (ow hw 6) rfl (g := (mkF m 175 #[vI pi0, vI pi1, vI 3, vI (pi1 &&& (3 : Int32)), vR b170, vR b199, vR b1072, vU, vU] [.ref b170, .ref b199])) rfl (zs hml) (argsL := [.ref b170]) (rest := []) (lenOf pd_24 rfl) rfl (hb hby at_175) (W := 0) rfl
      obtain ⟨rfl, Nq1122, K1122, f1123, f1124, f1125, f1126, f1127⟩ := hQ1122
      have N1122 := Fr.app N1089 Nq1122
      have ch1128 := CHr.keep K1122 (allS (Safe.exa hZ.alike F1111 (by decide) (by decide)) (allS (Safe.exa hZ.alike F1113 (by decide) (by decide)) all0)) CH1106.1
      have CH1129 := CHr.trans CH1106 ch1128
      refine og T1122 (mkF m 181 #[vI pi0, vI pi1, vI 3, vI (pi1 &&& (3 : Int32)), vR b170, vR b199, vR b1072, vU, vU] [.int 1, (.int (pi1 &&& (3 : Int32)))]) (fun _ k => st1122.trans (XS.pop X1122.here hx rfl (hb hby at_178) rfl rfl (XS.iloadN X1122.here hx rfl (hb hby at_179) rfl (XS.iconst X1122.here hx rfl (hb hby at_180) k)))) ?_
      by_cases hc1130 : (1 : Int32) < (pi1 &&& (3 : Int32))
      ·
       refine og T1122 (mkF m 188 #[vI pi0, vI pi1, vI 3, vI (pi1 &&& (3 : Int32)), vR b170, vR b199, vR b1072, vU, vU] [.ref b170, .ref b199]) (fun _ k => XS.icmpNo X1122.here hx rfl (hb hby at_181) rfl (tlt hc1130).2.2.2 (XS.aload X1122.here hx rfl (hb hby at_184) rfl rfl (XS.aload X1122.here hx rfl (hb hby at_186) rfl rfl k))) ?_
       have F1131 := (F1111.keep K1122)
       have F1132 := (F1113.keep K1122)
       have F1133 := (F1114.keep K1122)
       have F1134 := (F1116.keep K1122 (ninS ne219 (ninS ne255 nin0)))
       have F1135 := (F1121.keep K1122 (allS g200 (allS g233 all0)))
       obtain ⟨_, T1136, L1136, X1136, hQ1136, st1136⟩ := own_vc X1122 hx hZ hown (ow hw 65) (ow hw 66) (ow hw 68) (ow hw 67) F1131 (rm10_62 l Z a0 hw b199 o223 kc224 b170 el ee kee T1122.heap n0 F1135 EE0 FE0 VE0 f1123 F1131 f1124 F1132 F1133 F1134 f1127 f232 f1125 f1126 g200 ne219 (Ne.symm (own_ne_lo (Nat.lt_of_lt_of_le A199.lt K207.1) f225)) g233) (ow hw 69) (ow hw 6) rfl (g := (mkF m 188 #[vI pi0, vI pi1, vI 3, vI (pi1 &&& (3 : Int32)), vR b170, vR b199, vR b1072, vU, vU] [.ref b170, .ref b199])) rfl (zs hml) (argsL := [.ref b170]) (rest := []) (lenOf pd_24 rfl) rfl (hb hby at_188) (W := 0) rfl
       obtain ⟨rfl, Nq1136, K1136, f1137, f1138, f1139, f1140, f1141⟩ := hQ1136
       have N1136 := Fr.app N1122 Nq1136
       have ch1142 := CHr.keep K1136 (allS (Safe.exa hZ.alike F1131 (by decide) (by decide)) (allS (Safe.exa hZ.alike F1132 (by decide) (by decide)) all0)) CH1129.1
       have CH1143 := CHr.trans CH1129 ch1142
       refine og T1136 (mkF m 194 #[vI pi0, vI pi1, vI 3, vI (pi1 &&& (3 : Int32)), vR b170, vR b199, vR b1072, vU, vU] [.int 2, (.int (pi1 &&& (3 : Int32)))]) (fun _ k => st1136.trans (XS.pop X1136.here hx rfl (hb hby at_191) rfl rfl (XS.iloadN X1136.here hx rfl (hb hby at_192) rfl (XS.iconst X1136.here hx rfl (hb hby at_193) k)))) ?_
       by_cases hc1144 : (2 : Int32) < (pi1 &&& (3 : Int32))
       ·
        refine og T1136 (mkF m 201 #[vI pi0, vI pi1, vI 3, vI (pi1 &&& (3 : Int32)), vR b170, vR b199, vR b1072, vU, vU] [.ref b170, .ref b199]) (fun _ k => XS.icmpNo X1136.here hx rfl (hb hby at_194) rfl (tlt hc1144).2.2.2 (XS.aload X1136.here hx rfl (hb hby at_197) rfl rfl (XS.aload X1136.here hx rfl (hb hby at_199) rfl rfl k))) ?_
        have F1145 := (F1131.keep K1136)
        have F1146 := (F1132.keep K1136)
        have F1147 := (F1133.keep K1136)
        have F1148 := (F1134.keep K1136 (ninS ne219 (ninS ne255 nin0)))
        have F1149 := (F1135.keep K1136 (allS g200 (allS g233 all0)))
        obtain ⟨_, T1150, L1150, X1150, hQ1150, st1150⟩ := own_vc X1136 hx hZ hown (ow hw 65) (ow hw 66) (ow hw 68) (ow hw 67) F1145 (rm10_64 l Z a0 hw b199 o223 kc224 b170 el ee kee T1136.heap n0 F1149 EE0 FE0 VE0 f1137 F1145 f1138 F1146 F1147 F1148 f1141 f232 f1139 f1140 g200 ne219 (Ne.symm (own_ne_lo (Nat.lt_of_lt_of_le A199.lt K207.1) f225)) g233) (ow hw 69) (ow hw 6) rfl (g := (mkF m 201 #[vI pi0, vI pi1, vI 3, vI (pi1 &&& (3 : Int32)), vR b170, vR b199, vR b1072, vU, vU] [.ref b170, .ref b199])) rfl (zs hml) (argsL := [.ref b170]) (rest := []) (lenOf pd_24 rfl) rfl (hb hby at_201) (W := 0) rfl
        obtain ⟨rfl, Nq1150, K1150, f1151, f1152, f1153, f1154, f1155⟩ := hQ1150
        have N1150 := Fr.app N1136 Nq1150
        have ch1156 := CHr.keep K1150 (allS (Safe.exa hZ.alike F1145 (by decide) (by decide)) (allS (Safe.exa hZ.alike F1146 (by decide) (by decide)) all0)) CH1143.1
        have CH1157 := CHr.trans CH1143 ch1156
        refine og T1150 (mkF m 205 #[vI pi0, vI pi1, vI 3, vI (pi1 &&& (3 : Int32)), vR b170, vR b199, vR b1072, vU, vU] []) (fun _ k => st1150.trans (XS.pop X1150.here hx rfl (hb hby at_204) rfl rfl k)) ?_
        have F1158 := ((((A1072.keep K1089).keep K1122).keep K1136).keep K1150)
        have F1159 := (((f1096.keep K1122 (ninS (Ne.symm ne1109) (ninS (Ne.symm ne1117) nin0))).keep K1136 (ninS (Ne.symm ne1109) (ninS (Ne.symm ne1117) nin0))).keep K1150 (ninS (Ne.symm ne1109) (ninS (Ne.symm ne1117) nin0)))
        have F1160 := (((f1097.keep K1122).keep K1136).keep K1150)
        have ne1161 : o223 ≠ o1091 := (own_ne_lo (Nat.lt_of_lt_of_le (Nat.lt_of_lt_of_le (Nat.lt_of_lt_of_le f230.lt K243.1) K258.1) E1072.1) f1095)
        have ne1162 : b199 ≠ o1091 := (own_ne_lo (Nat.lt_of_lt_of_le (Nat.lt_of_lt_of_le (Nat.lt_of_lt_of_le (Nat.lt_of_lt_of_le (Nat.lt_of_lt_of_le A199.lt K207.1) K222.1) K243.1) K258.1) E1072.1) f1095)
        have F1163 := (((f1099.keep K1122 (ninS (Ne.symm ne1162) (ninS (Ne.symm ne1161) nin0))).keep K1136 (ninS (Ne.symm ne1162) (ninS (Ne.symm ne1161) nin0))).keep K1150 (ninS (Ne.symm ne1162) (ninS (Ne.symm ne1161) nin0)))
        have ne1164 : o223 ≠ o1090 := (own_ne_lo (Nat.lt_of_lt_of_le (Nat.lt_of_lt_of_le (Nat.lt_of_lt_of_le f230.lt K243.1) K258.1) E1072.1) f1094)
        have ne1165 : b199 ≠ o1090 := (own_ne_lo (Nat.lt_of_lt_of_le (Nat.lt_of_lt_of_le (Nat.lt_of_lt_of_le (Nat.lt_of_lt_of_le (Nat.lt_of_lt_of_le A199.lt K207.1) K222.1) K243.1) K258.1) E1072.1) f1094)
        have F1166 := (((f1098.keep K1122 (ninS (Ne.symm ne1165) (ninS (Ne.symm ne1164) nin0))).keep K1136 (ninS (Ne.symm ne1165) (ninS (Ne.symm ne1164) nin0))).keep K1150 (ninS (Ne.symm ne1165) (ninS (Ne.symm ne1164) nin0)))
        have KEEP := (((KP1107.trans K1122 (allS (Or.inr z202) (allS (Or.inr z234) all0))).trans K1136 (allS (Or.inr z202) (allS (Or.inr z234) all0))).trans K1150 (allS (Or.inr z202) (allS (Or.inr z234) all0)))
        exact J1 _ _ _ b170 b199 b1072 o1090 o1091 (3 : Int32) (own_wk X1150 (lb rfl) (lb rfl)) rfl N1150 KEEP z1075 F1158 F1159 (Or.inl ⟨F1160, F1166, _, _, F1163⟩) F1160.lt F1163.lt ⟨⟨3, by decide⟩, rfl⟩
       ·
        refine og T1136 (mkF m 205 #[vI pi0, vI pi1, vI 3, vI (pi1 &&& (3 : Int32)), vR b170, vR b199, vR b1072, vU, vU] []) (fun _ k => XS.icmpYes X1136.here hx rfl (pc0 := 194) (pc' := 205) rfl (hb hby at_194) rfl (flt hc1144).2.2.2 (by decide) (by decide) k) ?_
        have F1167 := (((A1072.keep K1089).keep K1122).keep K1136)
        have F1168 := ((f1096.keep K1122 (ninS (Ne.symm ne1109) (ninS (Ne.symm ne1117) nin0))).keep K1136 (ninS (Ne.symm ne1109) (ninS (Ne.symm ne1117) nin0)))
        have F1169 := ((f1097.keep K1122).keep K1136)
        have ne1170 : o223 ≠ o1091 := (own_ne_lo (Nat.lt_of_lt_of_le (Nat.lt_of_lt_of_le (Nat.lt_of_lt_of_le f230.lt K243.1) K258.1) E1072.1) f1095)
        have ne1171 : b199 ≠ o1091 := (own_ne_lo (Nat.lt_of_lt_of_le (Nat.lt_of_lt_of_le (Nat.lt_of_lt_of_le (Nat.lt_of_lt_of_le (Nat.lt_of_lt_of_le A199.lt K207.1) K222.1) K243.1) K258.1) E1072.1) f1095)
        have F1172 := ((f1099.keep K1122 (ninS (Ne.symm ne1171) (ninS (Ne.symm ne1170) nin0))).keep K1136 (ninS (Ne.symm ne1171) (ninS (Ne.symm ne1170) nin0)))
        have ne1173 : o223 ≠ o1090 := (own_ne_lo (Nat.lt_of_lt_of_le (Nat.lt_of_lt_of_le (Nat.lt_of_lt_of_le f230.lt K243.1) K258.1) E1072.1) f1094)
        have ne1174 : b199 ≠ o1090 := (own_ne_lo (Nat.lt_of_lt_of_le (Nat.lt_of_lt_of_le (Nat.lt_of_lt_of_le (Nat.lt_of_lt_of_le (Nat.lt_of_lt_of_le A199.lt K207.1) K222.1) K243.1) K258.1) E1072.1) f1094)
        have F1175 := ((f1098.keep K1122 (ninS (Ne.symm ne1174) (ninS (Ne.symm ne1173) nin0))).keep K1136 (ninS (Ne.symm ne1174) (ninS (Ne.symm ne1173) nin0)))
        have KEEP := ((KP1107.trans K1122 (allS (Or.inr z202) (allS (Or.inr z234) all0))).trans K1136 (allS (Or.inr z202) (allS (Or.inr z234) all0)))
        exact J1 _ _ _ b170 b199 b1072 o1090 o1091 (3 : Int32) (own_wk X1136 (lb rfl) (lb rfl)) rfl N1136 KEEP z1075 F1167 F1168 (Or.inl ⟨F1169, F1175, _, _, F1172⟩) F1169.lt F1172.lt ⟨⟨3, by decide⟩, rfl⟩
      ·
       refine og T1122 (mkF m 194 #[vI pi0, vI pi1, vI 3, vI (pi1 &&& (3 : Int32)), vR b170, vR b199, vR b1072, vU, vU] [.int 2, (.int (pi1 &&& (3 : Int32)))]) (fun _ k => XS.icmpYes X1122.here hx rfl (pc0 := 181) (pc' := 192) rfl (hb hby at_181) rfl (flt hc1130).2.2.2 (by decide) (by decide) (XS.iloadN X1122.here hx rfl (hb hby at_192) rfl (XS.iconst X1122.here hx rfl (hb hby at_193) k))) ?_
       refine og T1122 (mkF m 205 #[vI pi0, vI pi1, vI 3, vI (pi1 &&& (3 : Int32)), vR b170, vR b199, vR b1072, vU, vU] []) (fun _ k => XS.icmpYes X1122.here hx rfl (pc0 := 194) (pc' := 205) rfl (hb hby at_194) rfl (flt (own_nlt (a := (1 : Int32)) (by decide) hc1130)).2.2.2 (by decide) (by decide) k) ?_
       have F1176 := ((A1072.keep K1089).keep K1122)
       have F1177 := (f1096.keep K1122 (ninS (Ne.symm ne1109) (ninS (Ne.symm ne1117) nin0)))
       have F1178 := (f1097.keep K1122)
       have ne1179 : o223 ≠ o1091 := (own_ne_lo (Nat.lt_of_lt_of_le (Nat.lt_of_lt_of_le (Nat.lt_of_lt_of_le f230.lt K243.1) K258.1) E1072.1) f1095)
       have ne1180 : b199 ≠ o1091 := (own_ne_lo (Nat.lt_of_lt_of_le (Nat.lt_of_lt_of_le (Nat.lt_of_lt_of_le (Nat.lt_of_lt_of_le (Nat.lt_of_lt_of_le A199.lt K207.1) K222.1) K243.1) K258.1) E1072.1) f1095)
       have F1181 := (f1099.keep K1122 (ninS (Ne.symm ne1180) (ninS (Ne.symm ne1179) nin0)))
       have ne1182 : o223 ≠ o1090 := (own_ne_lo (Nat.lt_of_lt_of_le (Nat.lt_of_lt_of_le (Nat.lt_of_lt_of_le f230.lt K243.1) K258.1) E1072.1) f1094)
       have ne1183 : b199 ≠ o1090 := (own_ne_lo (Nat.lt_of_lt_of_le (Nat.lt_of_lt_of_le (Nat.lt_of_lt_of_le (Nat.lt_of_lt_of_le (Nat.lt_of_lt_of_le A199.lt K207.1) K222.1) K243.1) K258.1) E1072.1) f1094)
       have F1184 := (f1098.keep K1122 (ninS (Ne.symm ne1183) (ninS (Ne.symm ne1182) nin0)))
       have KEEP := (KP1107.trans K1122 (allS (Or.inr z202) (allS (Or.inr z234) all0)))
       exact J1 _ _ _ b170 b199 b1072 o1090 o1091 (3 : Int32) (own_wk X1122 (lb rfl) (lb rfl)) rfl N1122 KEEP z1075 F1176 F1177 (Or.inl ⟨F1178, F1184, _, _, F1181⟩) F1178.lt F1181.lt ⟨⟨3, by decide⟩, rfl⟩
     ·
      refine og T1089 (mkF m 181 #[vI pi0, vI pi1, vI 3, vI (pi1 &&& (3 : Int32)), vR b170, vR b199, vR b1072, vU, vU] [.int 1, (.int (pi1 &&& (3 : Int32)))]) (fun _ k => XS.ifYes X1089.here hx rfl (pc0 := 168) (pc' := 179) rfl (hb hby at_168) rfl ((if0 _ _).trans (flt hc1108).2.2.2) (by decide) (by decide) (XS.iloadN X1089.here hx rfl (hb hby at_179) rfl (XS.iconst X1089.here hx rfl (hb hby at_180) k))) ?_
      refine og T1089 (mkF m 194 #[vI pi0, vI pi1, vI 3, vI (pi1 &&& (3 : Int32)), vR b170, vR b199, vR b1072, vU, vU] [.int 2, (.int (pi1 &&& (3 : Int32)))]) (fun _ k => XS.icmpYes X1089.here hx rfl (pc0 := 181) (pc' := 192) rfl (hb hby at_181) rfl (flt (own_nlt (a := (0 : Int32)) (by decide) hc1108)).2.2.2 (by decide) (by decide) (XS.iloadN X1089.here hx rfl (hb hby at_192) rfl (XS.iconst X1089.here hx rfl (hb hby at_193) k))) ?_
      refine og T1089 (mkF m 205 #[vI pi0, vI pi1, vI 3, vI (pi1 &&& (3 : Int32)), vR b170, vR b199, vR b1072, vU, vU] []) (fun _ k => XS.icmpYes X1089.here hx rfl (pc0 := 194) (pc' := 205) rfl (hb hby at_194) rfl (flt (own_nlt (a := (1 : Int32)) (by decide) (own_nlt (a := (0 : Int32)) (by decide) hc1108))).2.2.2 (by decide) (by decide) k) ?_
      have F1185 := (A1072.keep K1089)
      have KEEP := KP1107
      exact J1 _ _ _ b170 b199 b1072 o1090 o1091 (3 : Int32) (own_wk X1089 (lb rfl) (lb rfl)) rfl N1089 KEEP z1075 F1185 f1096 (Or.inl ⟨f1097, f1098, _, _, f1099⟩) f1097.lt f1099.lt ⟨⟨3, by decide⟩, rfl⟩
   ·
    have hm : nm = (2 : Int32) := own_eqk hc238 hc251 (by decide)
    rw [hm]
    refine og T243 (mkF m 114 #[vI pi0, vI pi1, vI 2, vI (pi1 &&& (3 : Int32)), vR b170, vR b199, vU, vU, vU] []) (fun _ k => XS.icmpYes X243.here hx rfl (pc0 := 64) (pc' := 75) rfl (hb hby at_64) rfl (flt (by decide : ¬ ((2 : Int32) < (2 : Int32)))).2.2.2 (by decide) (by decide) (XS.iloadN X243.here hx rfl (hb hby at_75) rfl (XS.iconst X243.here hx rfl (hb hby at_76) (XS.icmpYes X243.here hx rfl (pc0 := 77) (pc' := 88) rfl (hb hby at_77) rfl (flt (by decide : ¬ ((3 : Int32) < (2 : Int32)))).2.2.2 (by decide) (by decide) (XS.iloadN X243.here hx rfl (hb hby at_88) rfl (XS.iconst X243.here hx rfl (hb hby at_89) (XS.icmpYes X243.here hx rfl (pc0 := 90) (pc' := 101) rfl (hb hby at_90) rfl (flt (by decide : ¬ ((4 : Int32) < (2 : Int32)))).2.2.2 (by decide) (by decide) (XS.iloadN X243.here hx rfl (hb hby at_101) rfl (XS.iconst X243.here hx rfl (hb hby at_102) (XS.icmpYes X243.here hx rfl (pc0 := 103) (pc' := 114) rfl (hb hby at_103) rfl (flt (by decide : ¬ ((5 : Int32) < (2 : Int32)))).2.2.2 (by decide) (by decide) k)))))))))) ?_
    refine og T243 (mkF m 156 #[vI pi0, vI pi1, vI 2, vI (pi1 &&& (3 : Int32)), vR b170, vR b199, vU, vU, vU] []) (fun _ k => XS.iloadN X243.here hx rfl (hb hby at_114) rfl (XS.bipush X243.here hx rfl (hb hby at_115) (XS.icmpYes X243.here hx rfl (pc0 := 117) (pc' := 128) rfl (hb hby at_117) rfl (flt (by decide : ¬ ((6 : Int32) < (2 : Int32)))).2.2.2 (by decide) (by decide) (XS.iloadN X243.here hx rfl (hb hby at_128) rfl (XS.bipush X243.here hx rfl (hb hby at_129) (XS.icmpYes X243.here hx rfl (pc0 := 131) (pc' := 142) rfl (hb hby at_131) rfl (flt (by decide : ¬ ((7 : Int32) < (2 : Int32)))).2.2.2 (by decide) (by decide) (XS.iloadN X243.here hx rfl (hb hby at_142) rfl (XS.bipush X243.here hx rfl (hb hby at_143) (XS.icmpYes X243.here hx rfl (pc0 := 145) (pc' := 156) rfl (hb hby at_145) rfl (flt (by decide : ¬ ((8 : Int32) < (2 : Int32)))).2.2.2 (by decide) (by decide) k))))))))) ?_
    have KP1186 := ((KP214.trans K222 (allS (Or.inr z202) all0)).trans K243 (allS (Or.inr z202) (allS (Or.inr z234) all0)))
    obtain ⟨T1187, h1187, X1187, e1187, E1187, A1187, D1187, U1187, st1187⟩ := newO X243 hx hZ hown (ow hw 1) (ow hw 2) (ow hw 3) rfl (g := (mkF m 156 #[vI pi0, vI pi1, vI 2, vI (pi1 &&& (3 : Int32)), vR b170, vR b199, vU, vU, vU] [])) rfl (hb hby at_156) (lb rfl) (lb rfl)
    obtain ⟨b1187, gb1187⟩ : ∃ z, z = T243.heap.size := ⟨_, rfl⟩
    rw [← gb1187] at A1187 D1187 U1187 st1187
    have F1189 := (F242.keep K243 (allS g200 (allS g233 all0)))
    have g1188 : n0 ≤ b1187 := Nat.le_trans (own_osz F1189) (Nat.le_of_eq gb1187.symm)
    have F1191 := (Nat.le_trans (Nat.le_trans F235 K222.1) K243.1)
    have z1190 : h0.size ≤ b1187 := Nat.le_trans F1191 (Nat.le_of_eq gb1187.symm)
    have ch1192 := CHr.ext E1187 CH250.1
    have CH1193 := CHr.trans CH250 ch1192
    refine og T1187 (mkF m 162 #[vI pi0, vI pi1, vI 2, vI (pi1 &&& (3 : Int32)), vR b170, vR b199, vU, vU, vU] [.ref b199, .ref b1187, .ref b1187]) (fun _ k => st1187 _ (XS.dup X1187.here hx rfl (hb hby at_159) rfl rfl (XS.aload X1187.here hx rfl (hb hby at_160) rfl rfl k))) ?_
    have F1194 := (f244.ext E1187)
    have F1195 := ((F239.keep K243).ext E1187)
    have F1196 := (f245.ext E1187)
    have F1197 := ((f230.keep K243).ext E1187)
    have F1198 := ((F240.keep K243).ext E1187)
    have ne1199 : b170 ≠ o223 := (own_ne_lo (Nat.lt_of_lt_of_le (Nat.lt_of_lt_of_le (Nat.lt_of_lt_of_le (Nat.lt_of_lt_of_le (Nat.lt_of_lt_of_le A170.lt E175.1) K183.1) K194.1) E199.1) K207.1) f225)
    have F1200 := ((F241.keep K243 (ninS ne219 (ninS ne1199 nin0))).ext E1187)
    have F1201 := (f248.ext E1187)
    have F1202 := (f246.ext E1187)
    have F1203 := (f247.ext E1187)
    have F1204 := (F1189.ext E1187)
    obtain ⟨_, T1205, L1205, X1205, hQ1205, st1205⟩ := own_sc X1187 hx hZ rfl hown (ow hw 30) (ow hw 31) (rm5_92 l Z a0 hw b1187 b199 o223 kc224 b170 el ee kee em mo h1187 n0 F1204 EE0 FE0 VE0 A1187 (D1187 (Or.inr (ow hw 64)) (ty := (.object "java/util/List")) (by decide)) F1194 F1195 F1196 F1197 F1198 F1200 F1201 f232 F1202 F1203 EM0 Mmo SM0 SE0 (own_ne_lo (Nat.lt_of_lt_of_le A199.lt K207.1) f225) g1188) (ow hw 32) (ow hw 3) e1187 (g := (mkF m 162 #[vI pi0, vI pi1, vI 2, vI (pi1 &&& (3 : Int32)), vR b170, vR b199, vU, vU, vU] [.ref b199, .ref b1187, .ref b1187])) rfl (zs hml) (argsL := [.ref b199]) (rest := [.ref b1187]) (lenOf pd_27 rfl) rfl (hb hby at_162) (W := 1) rfl
    obtain ⟨o1206, rfl, Nq1205, K1205, f1207, f1208, f1209, f1210⟩ := hQ1205
    have N1205 := Fr.app N243 Nq1205
    have g1211 : n0 ≤ o1206 := Nat.le_trans (own_osz F1204) f1207
    have F1213 := (Nat.le_trans F1191 E1187.1)
    have z1212 : h0.size ≤ o1206 := Nat.le_trans F1213 f1207
    have ch1214 := CHr.keep K1205 (allS (Safe.exa hZ.alike A1187 (by decide) (by decide)) all0) CH1193.1
    have CH1215 := CHr.trans CH1193 ch1214
    refine og T1205 (mkF m 167 #[vI pi0, vI pi1, vI 2, vI (pi1 &&& (3 : Int32)), vR b170, vR b199, vR b1187, vU, vU] []) (fun _ k => st1205.trans (XS.astore X1205.here hx rfl (hb hby at_165) rfl rfl (l' := #[vI pi0, vI pi1, vI 2, vI (pi1 &&& (3 : Int32)), vR b170, vR b199, vR b1187, vU, vU]) rfl k)) ?_
    have KP1216 := ((KP1186.ext E1187).trans K1205 (allS (Or.inr z1190) all0))
    refine og T1205 (mkF m 168 #[vI pi0, vI pi1, vI 2, vI (pi1 &&& (3 : Int32)), vR b170, vR b199, vR b1187, vU, vU] [(.int (pi1 &&& (3 : Int32)))]) (fun _ k => XS.iloadN X1205.here hx rfl (hb hby at_167) rfl k) ?_
    by_cases hc1217 : (0 : Int32) < (pi1 &&& (3 : Int32))
    ·
     refine og T1205 (mkF m 175 #[vI pi0, vI pi1, vI 2, vI (pi1 &&& (3 : Int32)), vR b170, vR b199, vR b1187, vU, vU] [.ref b170, .ref b199]) (fun _ k => XS.ifNo X1205.here hx rfl (hb hby at_168) rfl ((if0 _ _).trans (tlt hc1217).2.2.2) (XS.aload X1205.here hx rfl (hb hby at_171) rfl rfl (XS.aload X1205.here hx rfl (hb hby at_173) rfl rfl k))) ?_
     have ne1218 : b199 ≠ b1187 := (own_ne_lo (Nat.lt_of_lt_of_le (Nat.lt_of_lt_of_le (Nat.lt_of_lt_of_le A199.lt K207.1) K222.1) K243.1) (Nat.le_of_eq gb1187.symm))
     have F1219 := (F1194.keep K1205 (ninS ne1218 nin0))
     have F1220 := (F1195.keep K1205)
     have F1221 := (F1196.keep K1205 (ninS ne1218 nin0))
     have F1222 := (F1197.keep K1205)
     have F1223 := (F1198.keep K1205)
     have ne1224 : b170 ≠ b1187 := (own_ne_lo (Nat.lt_of_lt_of_le (Nat.lt_of_lt_of_le (Nat.lt_of_lt_of_le (Nat.lt_of_lt_of_le (Nat.lt_of_lt_of_le (Nat.lt_of_lt_of_le (Nat.lt_of_lt_of_le A170.lt E175.1) K183.1) K194.1) E199.1) K207.1) K222.1) K243.1) (Nat.le_of_eq gb1187.symm))
     have F1225 := (F1200.keep K1205 (ninS ne1224 nin0))
     have ne1226 : o223 ≠ b1187 := (own_ne_lo (Nat.lt_of_lt_of_le f230.lt K243.1) (Nat.le_of_eq gb1187.symm))
     have F1227 := (F1201.keep K1205 (ninS ne1226 nin0))
     have F1228 := (F1202.keep K1205 (ninS ne1218 nin0))
     have F1229 := (F1203.keep K1205 (ninS ne1218 nin0))
     have F1230 := (F1204.keep K1205 (allS g1188 all0))
     obtain ⟨_, T1231, L1231, X1231, hQ1231, st1231⟩ := own_vc X1205 hx hZ hown (ow hw 65) (ow hw 66) (ow hw 68) (ow hw 67) F1220 (rm10_58 l Z a0 hw b199 o223 kc224 b170 el ee kee T1205.heap n0 F1230 EE0 FE0 VE0 F1219 F1220 F1221 F1222 F1223 F1225 F1227 f232 F1228 F1229 g200 ne219 (Ne.symm (own_ne_lo (Nat.lt_of_lt_of_le A199.lt K207.1) f225)) g233) (ow hw 69) (ow hw 6) rfl (g := (mkF m 175 #[vI pi0, vI pi1, vI 2, vI (pi1 &&& (3 : Int32)), vR b170, vR b199, vR b1187, vU, vU] [.ref b170, .ref b199])) rfl (zs hml) (argsL := [.ref b170]) (rest := []) (lenOf pd_24 rfl) rfl (hb hby at_175) (W := 0) rfl
     obtain ⟨rfl, Nq1231, K1231, f1232, f1233, f1234, f1235, f1236⟩ := hQ1231
     have N1231 := Fr.app N1205 Nq1231
     have ch1237 := CHr.keep K1231 (allS (Safe.exa hZ.alike F1220 (by decide) (by decide)) (allS (Safe.exa hZ.alike F1222 (by decide) (by decide)) all0)) CH1215.1
     have CH1238 := CHr.trans CH1215 ch1237
     refine og T1231 (mkF m 181 #[vI pi0, vI pi1, vI 2, vI (pi1 &&& (3 : Int32)), vR b170, vR b199, vR b1187, vU, vU] [.int 1, (.int (pi1 &&& (3 : Int32)))]) (fun _ k => st1231.trans (XS.pop X1231.here hx rfl (hb hby at_178) rfl rfl (XS.iloadN X1231.here hx rfl (hb hby at_179) rfl (XS.iconst X1231.here hx rfl (hb hby at_180) k)))) ?_
     by_cases hc1239 : (1 : Int32) < (pi1 &&& (3 : Int32))
     ·
      refine og T1231 (mkF m 188 #[vI pi0, vI pi1, vI 2, vI (pi1 &&& (3 : Int32)), vR b170, vR b199, vR b1187, vU, vU] [.ref b170, .ref b199]) (fun _ k => XS.icmpNo X1231.here hx rfl (hb hby at_181) rfl (tlt hc1239).2.2.2 (XS.aload X1231.here hx rfl (hb hby at_184) rfl rfl (XS.aload X1231.here hx rfl (hb hby at_186) rfl rfl k))) ?_
      have F1240 := (F1220.keep K1231)
      have F1241 := (F1222.keep K1231)
      have F1242 := (F1223.keep K1231)
      have F1243 := (F1225.keep K1231 (ninS ne219 (ninS ne1199 nin0)))
      have F1244 := (F1230.keep K1231 (allS g200 (allS g233 all0)))
      obtain ⟨_, T1245, L1245, X1245, hQ1245, st1245⟩ := own_vc X1231 hx hZ hown (ow hw 65) (ow hw 66) (ow hw 68) (ow hw 67) F1240 (rm10_60 l Z a0 hw b199 o223 kc224 b170 el ee kee T1231.heap n0 F1244 EE0 FE0 VE0 f1232 F1240 f1233 F1241 F1242 F1243 f1236 f232 f1234 f1235 g200 ne219 (Ne.symm (own_ne_lo (Nat.lt_of_lt_of_le A199.lt K207.1) f225)) g233) (ow hw 69) (ow hw 6) rfl (g := (mkF m 188 #[vI pi0, vI pi1, vI 2, vI (pi1 &&& (3 : Int32)), vR b170, vR b199, vR b1187, vU, vU] [.ref b170, .ref b199])) rfl (zs hml) (argsL := [.ref b170]) (rest := []) (lenOf pd_24 rfl) rfl (hb hby at_188) (W := 0) rfl
      obtain ⟨rfl, Nq1245, K1245, f1246, f1247, f1248, f1249, f1250⟩ := hQ1245
      have N1245 := Fr.app N1231 Nq1245
      have ch1251 := CHr.keep K1245 (allS (Safe.exa hZ.alike F1240 (by decide) (by decide)) (allS (Safe.exa hZ.alike F1241 (by decide) (by decide)) all0)) CH1238.1
      have CH1252 := CHr.trans CH1238 ch1251
      refine og T1245 (mkF m 194 #[vI pi0, vI pi1, vI 2, vI (pi1 &&& (3 : Int32)), vR b170, vR b199, vR b1187, vU, vU] [.int 2, (.int (pi1 &&& (3 : Int32)))]) (fun _ k => st1245.trans (XS.pop X1245.here hx rfl (hb hby at_191) rfl rfl (XS.iloadN X1245.here hx rfl (hb hby at_192) rfl (XS.iconst X1245.here hx rfl (hb hby at_193) k)))) ?_
      by_cases hc1253 : (2 : Int32) < (pi1 &&& (3 : Int32))
      ·
       refine og T1245 (mkF m 201 #[vI pi0, vI pi1, vI 2, vI (pi1 &&& (3 : Int32)), vR b170, vR b199, vR b1187, vU, vU] [.ref b170, .ref b199]) (fun _ k => XS.icmpNo X1245.here hx rfl (hb hby at_194) rfl (tlt hc1253).2.2.2 (XS.aload X1245.here hx rfl (hb hby at_197) rfl rfl (XS.aload X1245.here hx rfl (hb hby at_199) rfl rfl k))) ?_
       have F1254 := (F1240.keep K1245)
       have F1255 := (F1241.keep K1245)
       have F1256 := (F1242.keep K1245)
       have F1257 := (F1243.keep K1245 (ninS ne219 (ninS ne1199 nin0)))
       have F1258 := (F1244.keep K1245 (allS g200 (allS g233 all0)))
       obtain ⟨_, T1259, L1259, X1259, hQ1259, st1259⟩ := own_vc X1245 hx hZ hown (ow hw 65) (ow hw 66) (ow hw 68) (ow hw 67) F1254 (rm10_62 l Z a0 hw b199 o223 kc224 b170 el ee kee T1245.heap n0 F1258 EE0 FE0 VE0 f1246 F1254 f1247 F1255 F1256 F1257 f1250 f232 f1248 f1249 g200 ne219 (Ne.symm (own_ne_lo (Nat.lt_of_lt_of_le A199.lt K207.1) f225)) g233) (ow hw 69) (ow hw 6) rfl (g := (mkF m 201 #[vI pi0, vI pi1, vI 2, vI (pi1 &&& (3 : Int32)), vR b170, vR b199, vR b1187, vU, vU] [.ref b170, .ref b199])) rfl (zs hml) (argsL := [.ref b170]) (rest := []) (lenOf pd_24 rfl) rfl (hb hby at_201) (W := 0) rfl
       obtain ⟨rfl, Nq1259, K1259, f1260, f1261, f1262, f1263, f1264⟩ := hQ1259
       have N1259 := Fr.app N1245 Nq1259
       have ch1265 := CHr.keep K1259 (allS (Safe.exa hZ.alike F1254 (by decide) (by decide)) (allS (Safe.exa hZ.alike F1255 (by decide) (by decide)) all0)) CH1252.1
       have CH1266 := CHr.trans CH1252 ch1265
       refine og T1259 (mkF m 205 #[vI pi0, vI pi1, vI 2, vI (pi1 &&& (3 : Int32)), vR b170, vR b199, vR b1187, vU, vU] []) (fun _ k => st1259.trans (XS.pop X1259.here hx rfl (hb hby at_204) rfl rfl k)) ?_
       have F1267 := ((((A1187.keep K1205).keep K1231).keep K1245).keep K1259)
       have F1268 := (((f1208.keep K1231 (ninS (Ne.symm ne1218) (ninS (Ne.symm ne1226) nin0))).keep K1245 (ninS (Ne.symm ne1218) (ninS (Ne.symm ne1226) nin0))).keep K1259 (ninS (Ne.symm ne1218) (ninS (Ne.symm ne1226) nin0)))
       have F1269 := (((f1209.keep K1231).keep K1245).keep K1259)
       have ne1270 : o223 ≠ o1206 := (own_ne_lo (Nat.lt_of_lt_of_le (Nat.lt_of_lt_of_le f230.lt K243.1) E1187.1) f1207)
       have ne1271 : b199 ≠ o1206 := (own_ne_lo (Nat.lt_of_lt_of_le (Nat.lt_of_lt_of_le (Nat.lt_of_lt_of_le (Nat.lt_of_lt_of_le A199.lt K207.1) K222.1) K243.1) E1187.1) f1207)
       have F1272 := (((f1210.keep K1231 (ninS (Ne.symm ne1271) (ninS (Ne.symm ne1270) nin0))).keep K1245 (ninS (Ne.symm ne1271) (ninS (Ne.symm ne1270) nin0))).keep K1259 (ninS (Ne.symm ne1271) (ninS (Ne.symm ne1270) nin0)))
       have KEEP := (((KP1216.trans K1231 (allS (Or.inr z202) (allS (Or.inr z234) all0))).trans K1245 (allS (Or.inr z202) (allS (Or.inr z234) all0))).trans K1259 (allS (Or.inr z202) (allS (Or.inr z234) all0)))
       exact J1 _ _ _ b170 b199 b1187 o1206 o1206 (2 : Int32) (own_wk X1259 (lb rfl) (lb rfl)) rfl N1259 KEEP z1190 F1267 F1268 (Or.inr ⟨F1269, _, F1272, Or.inr ⟨rfl, (Ne.symm (own_ne_old EM0.lt OLD g171))⟩⟩) F1269.lt F1269.lt ⟨⟨2, by decide⟩, rfl⟩
      ·
       refine og T1245 (mkF m 205 #[vI pi0, vI pi1, vI 2, vI (pi1 &&& (3 : Int32)), vR b170, vR b199, vR b1187, vU, vU] []) (fun _ k => XS.icmpYes X1245.here hx rfl (pc0 := 194) (pc' := 205) rfl (hb hby at_194) rfl (flt hc1253).2.2.2 (by decide) (by decide) k) ?_
       have F1273 := (((A1187.keep K1205).keep K1231).keep K1245)
       have F1274 := ((f1208.keep K1231 (ninS (Ne.symm ne1218) (ninS (Ne.symm ne1226) nin0))).keep K1245 (ninS (Ne.symm ne1218) (ninS (Ne.symm ne1226) nin0)))
       have F1275 := ((f1209.keep K1231).keep K1245)
       have ne1276 : o223 ≠ o1206 := (own_ne_lo (Nat.lt_of_lt_of_le (Nat.lt_of_lt_of_le f230.lt K243.1) E1187.1) f1207)
       have ne1277 : b199 ≠ o1206 := (own_ne_lo (Nat.lt_of_lt_of_le (Nat.lt_of_lt_of_le (Nat.lt_of_lt_of_le (Nat.lt_of_lt_of_le A199.lt K207.1) K222.1) K243.1) E1187.1) f1207)
       have F1278 := ((f1210.keep K1231 (ninS (Ne.symm ne1277) (ninS (Ne.symm ne1276) nin0))).keep K1245 (ninS (Ne.symm ne1277) (ninS (Ne.symm ne1276) nin0)))
       have KEEP := ((KP1216.trans K1231 (allS (Or.inr z202) (allS (Or.inr z234) all0))).trans K1245 (allS (Or.inr z202) (allS (Or.inr z234) all0)))
       exact J1 _ _ _ b170 b199 b1187 o1206 o1206 (2 : Int32) (own_wk X1245 (lb rfl) (lb rfl)) rfl N1245 KEEP z1190 F1273 F1274 (Or.inr ⟨F1275, _, F1278, Or.inr ⟨rfl, (Ne.symm (own_ne_old EM0.lt OLD g171))⟩⟩) F1275.lt F1275.lt ⟨⟨2, by decide⟩, rfl⟩
     ·
      refine og T1231 (mkF m 194 #[vI pi0, vI pi1, vI 2, vI (pi1 &&& (3 : Int32)), vR b170, vR b199, vR b1187, vU, vU] [.int 2, (.int (pi1 &&& (3 : Int32)))]) (fun _ k => XS.icmpYes X1231.here hx rfl (pc0 := 181) (pc' := 192) rfl (hb hby at_181) rfl (flt hc1239).2.2.2 (by decide) (by decide) (XS.iloadN X1231.here hx rfl (hb hby at_192) rfl (XS.iconst X1231.here hx rfl (hb hby at_193) k))) ?_
      refine og T1231 (mkF m 205 #[vI pi0, vI pi1, vI 2, vI (pi1 &&& (3 : Int32)), vR b170, vR b199, vR b1187, vU, vU] []) (fun _ k => XS.icmpYes X1231.here hx rfl (pc0 := 194) (pc' := 205) rfl (hb hby at_194) rfl (flt (own_nlt (a := (1 : Int32)) (by decide) hc1239)).2.2.2 (by decide) (by decide) k) ?_
      have F1279 := ((A1187.keep K1205).keep K1231)
      have F1280 := (f1208.keep K1231 (ninS (Ne.symm ne1218) (ninS (Ne.symm ne1226) nin0)))
      have F1281 := (f1209.keep K1231)
      have ne1282 : o223 ≠ o1206 := (own_ne_lo (Nat.lt_of_lt_of_le (Nat.lt_of_lt_of_le f230.lt K243.1) E1187.1) f1207)
      have ne1283 : b199 ≠ o1206 := (own_ne_lo (Nat.lt_of_lt_of_le (Nat.lt_of_lt_of_le (Nat.lt_of_lt_of_le (Nat.lt_of_lt_of_le A199.lt K207.1) K222.1) K243.1) E1187.1) f1207)
      have F1284 := (f1210.keep K1231 (ninS (Ne.symm ne1283) (ninS (Ne.symm ne1282) nin0)))
      have KEEP := (KP1216.trans K1231 (allS (Or.inr z202) (allS (Or.inr z234) all0)))
      exact J1 _ _ _ b170 b199 b1187 o1206 o1206 (2 : Int32) (own_wk X1231 (lb rfl) (lb rfl)) rfl N1231 KEEP z1190 F1279 F1280 (Or.inr ⟨F1281, _, F1284, Or.inr ⟨rfl, (Ne.symm (own_ne_old EM0.lt OLD g171))⟩⟩) F1281.lt F1281.lt ⟨⟨2, by decide⟩, rfl⟩
    ·
     refine og T1205 (mkF m 181 #[vI pi0, vI pi1, vI 2, vI (pi1 &&& (3 : Int32)), vR b170, vR b199, vR b1187, vU, vU] [.int 1, (.int (pi1 &&& (3 : Int32)))]) (fun _ k => XS.ifYes X1205.here hx rfl (pc0 := 168) (pc' := 179) rfl (hb hby at_168) rfl ((if0 _ _).trans (flt hc1217).2.2.2) (by decide) (by decide) (XS.iloadN X1205.here hx rfl (hb hby at_179) rfl (XS.iconst X1205.here hx rfl (hb hby at_180) k))) ?_
     refine og T1205 (mkF m 194 #[vI pi0, vI pi1, vI 2, vI (pi1 &&& (3 : Int32)), vR b170, vR b199, vR b1187, vU, vU] [.int 2, (.int (pi1 &&& (3 : Int32)))]) (fun _ k => XS.icmpYes X1205.here hx rfl (pc0 := 181) (pc' := 192) rfl (hb hby at_181) rfl (flt (own_nlt (a := (0 : Int32)) (by decide) hc1217)).2.2.2 (by decide) (by decide) (XS.iloadN X1205.here hx rfl (hb hby at_192) rfl (XS.iconst X1205.here hx rfl (hb hby at_193) k))) ?_
     refine og T1205 (mkF m 205 #[vI pi0, vI pi1, vI 2, vI (pi1 &&& (3 : Int32)), vR b170, vR b199, vR b1187, vU, vU] []) (fun _ k => XS.icmpYes X1205.here hx rfl (pc0 := 194) (pc' := 205) rfl (hb hby at_194) rfl (flt (own_nlt (a := (1 : Int32)) (by decide) (own_nlt (a := (0 : Int32)) (by decide) hc1217))).2.2.2 (by decide) (by decide) k) ?_
     have F1285 := (A1187.keep K1205)
     have KEEP := KP1216
     exact J1 _ _ _ b170 b199 b1187 o1206 o1206 (2 : Int32) (own_wk X1205 (lb rfl) (lb rfl)) rfl N1205 KEEP z1190 F1285 f1208 (Or.inr ⟨f1209, _, f1210, Or.inr ⟨rfl, (Ne.symm (own_ne_old EM0.lt OLD g171))⟩⟩) f1209.lt f1209.lt ⟨⟨2, by decide⟩, rfl⟩
  ·
   have hm : nm = (1 : Int32) := own_eqk hc216 hc238 (by decide)
   rw [hm]
   refine og T222 (mkF m 101 #[vI pi0, vI pi1, vI 1, vI (pi1 &&& (3 : Int32)), vR b170, vR b199, vU, vU, vU] []) (fun _ k => XS.icmpYes X222.here hx rfl (pc0 := 51) (pc' := 62) rfl (hb hby at_51) rfl (flt (by decide : ¬ ((1 : Int32) < (1 : Int32)))).2.2.2 (by decide) (by decide) (XS.iloadN X222.here hx rfl (hb hby at_62) rfl (XS.iconst X222.here hx rfl (hb hby at_63) (XS.icmpYes X222.here hx rfl (pc0 := 64) (pc' := 75) rfl (hb hby at_64) rfl (flt (by decide : ¬ ((2 : Int32) < (1 : Int32)))).2.2.2 (by decide) (by decide) (XS.iloadN X222.here hx rfl (hb hby at_75) rfl (XS.iconst X222.here hx rfl (hb hby at_76) (XS.icmpYes X222.here hx rfl (pc0 := 77) (pc' := 88) rfl (hb hby at_77) rfl (flt (by decide : ¬ ((3 : Int32) < (1 : Int32)))).2.2.2 (by decide) (by decide) (XS.iloadN X222.here hx rfl (hb hby at_88) rfl (XS.iconst X222.here hx rfl (hb hby at_89) (XS.icmpYes X222.here hx rfl (pc0 := 90) (pc' := 101) rfl (hb hby at_90) rfl (flt (by decide : ¬ ((4 : Int32) < (1 : Int32)))).2.2.2 (by decide) (by decide) k)))))))))) ?_
   refine og T222 (mkF m 143 #[vI pi0, vI pi1, vI 1, vI (pi1 &&& (3 : Int32)), vR b170, vR b199, vU, vU, vU] [.int 1]) (fun _ k => XS.iloadN X222.here hx rfl (hb hby at_101) rfl (XS.iconst X222.here hx rfl (hb hby at_102) (XS.icmpYes X222.here hx rfl (pc0 := 103) (pc' := 114) rfl (hb hby at_103) rfl (flt (by decide : ¬ ((5 : Int32) < (1 : Int32)))).2.2.2 (by decide) (by decide) (XS.iloadN X222.here hx rfl (hb hby at_114) rfl (XS.bipush X222.here hx rfl (hb hby at_115) (XS.icmpYes X222.here hx rfl (pc0 := 117) (pc' := 128) rfl (hb hby at_117) rfl (flt (by decide : ¬ ((6 : Int32) < (1 : Int32)))).2.2.2 (by decide) (by decide) (XS.iloadN X222.here hx rfl (hb hby at_128) rfl (XS.bipush X222.here hx rfl (hb hby at_129) (XS.icmpYes X222.here hx rfl (pc0 := 131) (pc' := 142) rfl (hb hby at_131) rfl (flt (by decide : ¬ ((7 : Int32) < (1 : Int32)))).2.2.2 (by decide) (by decide) (XS.iloadN X222.here hx rfl (hb hby at_142) rfl k)))))))))) ?_
   refine og T222 (mkF m 156 #[vI pi0, vI pi1, vI 1, vI (pi1 &&& (3 : Int32)), vR b170, vR b199, vU, vU, vU] []) (fun _ k => XS.bipush X222.here hx rfl (hb hby at_143) (XS.icmpYes X222.here hx rfl (pc0 := 145) (pc' := 156) rfl (hb hby at_145) rfl (flt (by decide : ¬ ((8 : Int32) < (1 : Int32)))).2.2.2 (by decide) (by decide) k)) ?_
   have KP1286 := (KP214.trans K222 (allS (Or.inr z202) all0))
   obtain ⟨T1287, h1287, X1287, e1287, E1287, A1287, D1287, U1287, st1287⟩ := newO X222 hx hZ hown (ow hw 1) (ow hw 2) (ow hw 3) rfl (g := (mkF m 156 #[vI pi0, vI pi1, vI 1, vI (pi1 &&& (3 : Int32)), vR b170, vR b199, vU, vU, vU] [])) rfl (hb hby at_156) (lb rfl) (lb rfl)
   obtain ⟨b1287, gb1287⟩ : ∃ z, z = T222.heap.size := ⟨_, rfl⟩
   rw [← gb1287] at A1287 D1287 U1287 st1287
   have F1289 := (F221.keep K222 (allS g200 all0))
   have g1288 : n0 ≤ b1287 := Nat.le_trans (own_osz F1289) (Nat.le_of_eq gb1287.symm)
   have F1291 := (Nat.le_trans F235 K222.1)
   have z1290 : h0.size ≤ b1287 := Nat.le_trans F1291 (Nat.le_of_eq gb1287.symm)
   have ch1292 := CHr.ext E1287 CH237.1
   have CH1293 := CHr.trans CH237 ch1292
   refine og T1287 (mkF m 162 #[vI pi0, vI pi1, vI 1, vI (pi1 &&& (3 : Int32)), vR b170, vR b199, vU, vU, vU] [.ref b199, .ref b1287, .ref b1287]) (fun _ k => st1287 _ (XS.dup X1287.here hx rfl (hb hby at_159) rfl rfl (XS.aload X1287.here hx rfl (hb hby at_160) rfl rfl k))) ?_
   have F1294 := (f226.ext E1287)
   have F1295 := ((F217.keep K222).ext E1287)
   have F1296 := (f227.ext E1287)
   have F1297 := (f230.ext E1287)
   have F1298 := ((F218.keep K222).ext E1287)
   have F1299 := ((F220.keep K222 (ninS ne219 nin0)).ext E1287)
   have F1300 := (f231.ext E1287)
   have F1301 := (f228.ext E1287)
   have F1302 := (f229.ext E1287)
   have F1303 := (F1289.ext E1287)
   obtain ⟨_, T1304, L1304, X1304, hQ1304, st1304⟩ := own_sc X1287 hx hZ rfl hown (ow hw 30) (ow hw 31) (rm5_93 l Z a0 hw b1287 b199 o223 kc224 b170 el ee kee em mo h1287 n0 F1303 EE0 FE0 VE0 A1287 (D1287 (Or.inr (ow hw 64)) (ty := (.object "java/util/List")) (by decide)) F1294 F1295 F1296 F1297 F1298 F1299 F1300 f232 F1301 F1302 EM0 Mmo SM0 SE0 (own_ne_lo (Nat.lt_of_lt_of_le A199.lt K207.1) f225) g1288) (ow hw 32) (ow hw 3) e1287 (g := (mkF m 162 #[vI pi0, vI pi1, vI 1, vI (pi1 &&& (3 : Int32)), vR b170, vR b199, vU, vU, vU] [.ref b199, .ref b1287, .ref b1287])) rfl (zs hml) (argsL := [.ref b199]) (rest := [.ref b1287]) (lenOf pd_27 rfl) rfl (hb hby at_162) (W := 1) rfl
   obtain ⟨o1305, rfl, Nq1304, K1304, f1306, f1307, f1308, f1309⟩ := hQ1304
   have N1304 := Fr.app N222 Nq1304
   have g1310 : n0 ≤ o1305 := Nat.le_trans (own_osz F1303) f1306
   have F1312 := (Nat.le_trans F1291 E1287.1)
   have z1311 : h0.size ≤ o1305 := Nat.le_trans F1312 f1306
   have ch1313 := CHr.keep K1304 (allS (Safe.exa hZ.alike A1287 (by decide) (by decide)) all0) CH1293.1
   have CH1314 := CHr.trans CH1293 ch1313
   refine og T1304 (mkF m 167 #[vI pi0, vI pi1, vI 1, vI (pi1 &&& (3 : Int32)), vR b170, vR b199, vR b1287, vU, vU] []) (fun _ k => st1304.trans (XS.astore X1304.here hx rfl (hb hby at_165) rfl rfl (l' := #[vI pi0, vI pi1, vI 1, vI (pi1 &&& (3 : Int32)), vR b170, vR b199, vR b1287, vU, vU]) rfl k)) ?_
   have KP1315 := ((KP1286.ext E1287).trans K1304 (allS (Or.inr z1290) all0))
   refine og T1304 (mkF m 168 #[vI pi0, vI pi1, vI 1, vI (pi1 &&& (3 : Int32)), vR b170, vR b199, vR b1287, vU, vU] [(.int (pi1 &&& (3 : Int32)))]) (fun _ k => XS.iloadN X1304.here hx rfl (hb hby at_167) rfl k) ?_
   by_cases hc1316 : (0 : Int32) < (pi1 &&& (3 : Int32))
   ·
    refine og T1304 (mkF m 175 #[vI pi0, vI pi1, vI 1, vI (pi1 &&& (3 : Int32)), vR b170, vR b199, vR b1287, vU, vU] [.ref b170, .ref b199]) (fun _ k => XS.ifNo X1304.here hx rfl (hb hby at_168) rfl ((if0 _ _).trans (tlt hc1316).2.2.2) (XS.aload X1304.here hx rfl (hb hby at_171) rfl rfl (XS.aload X1304.here hx rfl (hb hby at_173) rfl rfl k))) ?_
    have ne1317 : b199 ≠ b1287 := (own_ne_lo (Nat.lt_of_lt_of_le (Nat.lt_of_lt_of_le A199.lt K207.1) K222.1) (Nat.le_of_eq gb1287.symm))
    have F1318 := (F1294.keep K1304 (ninS ne1317 nin0))
    have F1319 := (F1295.keep K1304)
    have F1320 := (F1296.keep K1304 (ninS ne1317 nin0))
    have F1321 := (F1297.keep K1304)
    have F1322 := (F1298.keep K1304)
    have ne1323 : b170 ≠ b1287 := (own_ne_lo (Nat.lt_of_lt_of_le (Nat.lt_of_lt_of_le (Nat.lt_of_lt_of_le (Nat.lt_of_lt_of_le (Nat.lt_of_lt_of_le (Nat.lt_of_lt_of_le A170.lt E175.1) K183.1) K194.1) E199.1) K207.1) K222.1) (Nat.le_of_eq gb1287.symm))
    have F1324 := (F1299.keep K1304 (ninS ne1323 nin0))
    have F1325 := (F1300.keep K1304 (ninS (own_ne_lo f230.lt (Nat.le_of_eq gb1287.symm)) nin0))
    have F1326 := (F1301.keep K1304 (ninS ne1317 nin0))
    have F1327 := (F1302.keep K1304 (ninS ne1317 nin0))
    have F1328 := (F1303.keep K1304 (allS g1288 all0))
    obtain ⟨_, T1329, L1329, X1329, hQ1329, st1329⟩ := own_vc X1304 hx hZ hown (ow hw 65) (ow hw 66) (ow hw 68) (ow hw 67) F1319 (rm10_56 l Z a0 hw b199 o223 kc224 b170 el ee kee T1304.heap n0 F1328 EE0 FE0 VE0 F1318 F1319 F1320 F1321 F1322 F1324 F1325 f232 F1326 F1327 g200 ne219 (Ne.symm (own_ne_lo (Nat.lt_of_lt_of_le A199.lt K207.1) f225)) g233) (ow hw 69) (ow hw 6) rfl (g := (mkF m 175 #[vI pi0, vI pi1, vI 1, vI (pi1 &&& (3 : Int32)), vR b170, vR b199, vR b1287, vU, vU] [.ref b170, .ref b199])) rfl (zs hml) (argsL := [.ref b170]) (rest := []) (lenOf pd_24 rfl) rfl (hb hby at_175) (W := 0) rfl
    obtain ⟨rfl, Nq1329, K1329, f1330, f1331, f1332, f1333, f1334⟩ := hQ1329
    have N1329 := Fr.app N1304 Nq1329
    have ch1335 := CHr.keep K1329 (allS (Safe.exa hZ.alike F1319 (by decide) (by decide)) (allS (Safe.exa hZ.alike F1321 (by decide) (by decide)) all0)) CH1314.1
    have CH1336 := CHr.trans CH1314 ch1335
    refine og T1329 (mkF m 181 #[vI pi0, vI pi1, vI 1, vI (pi1 &&& (3 : Int32)), vR b170, vR b199, vR b1287, vU, vU] [.int 1, (.int (pi1 &&& (3 : Int32)))]) (fun _ k => st1329.trans (XS.pop X1329.here hx rfl (hb hby at_178) rfl rfl (XS.iloadN X1329.here hx rfl (hb hby at_179) rfl (XS.iconst X1329.here hx rfl (hb hby at_180) k)))) ?_
    by_cases hc1337 : (1 : Int32) < (pi1 &&& (3 : Int32))
    ·
     refine og T1329 (mkF m 188 #[vI pi0, vI pi1, vI 1, vI (pi1 &&& (3 : Int32)), vR b170, vR b199, vR b1287, vU, vU] [.ref b170, .ref b199]) (fun _ k => XS.icmpNo X1329.here hx rfl (hb hby at_181) rfl (tlt hc1337).2.2.2 (XS.aload X1329.here hx rfl (hb hby at_184) rfl rfl (XS.aload X1329.here hx rfl (hb hby at_186) rfl rfl k))) ?_
     have F1338 := (F1319.keep K1329)
     have F1339 := (F1321.keep K1329)
     have F1340 := (F1322.keep K1329)
     have ne1341 : b170 ≠ o223 := (own_ne_lo (Nat.lt_of_lt_of_le (Nat.lt_of_lt_of_le (Nat.lt_of_lt_of_le (Nat.lt_of_lt_of_le (Nat.lt_of_lt_of_le A170.lt E175.1) K183.1) K194.1) E199.1) K207.1) f225)
     have F1342 := (F1324.keep K1329 (ninS ne219 (ninS ne1341 nin0)))
     have F1343 := (F1328.keep K1329 (allS g200 (allS g233 all0)))
     obtain ⟨_, T1344, L1344, X1344, hQ1344, st1344⟩ := own_vc X1329 hx hZ hown (ow hw 65) (ow hw 66) (ow hw 68) (ow hw 67) F1338 (rm10_58 l Z a0 hw b199 o223 kc224 b170 el ee kee T1329.heap n0 F1343 EE0 FE0 VE0 f1330 F1338 f1331 F1339 F1340 F1342 f1334 f232 f1332 f1333 g200 ne219 (Ne.symm (own_ne_lo (Nat.lt_of_lt_of_le A199.lt K207.1) f225)) g233) (ow hw 69) (ow hw 6) rfl (g := (mkF m 188 #[vI pi0, vI pi1, vI 1, vI (pi1 &&& (3 : Int32)), vR b170, vR b199, vR b1287, vU, vU] [.ref b170, .ref b199])) rfl (zs hml) (argsL := [.ref b170]) (rest := []) (lenOf pd_24 rfl) rfl (hb hby at_188) (W := 0) rfl
     obtain ⟨rfl, Nq1344, K1344, f1345, f1346, f1347, f1348, f1349⟩ := hQ1344
     have N1344 := Fr.app N1329 Nq1344
     have ch1350 := CHr.keep K1344 (allS (Safe.exa hZ.alike F1338 (by decide) (by decide)) (allS (Safe.exa hZ.alike F1339 (by decide) (by decide)) all0)) CH1336.1
     have CH1351 := CHr.trans CH1336 ch1350
     refine og T1344 (mkF m 194 #[vI pi0, vI pi1, vI 1, vI (pi1 &&& (3 : Int32)), vR b170, vR b199, vR b1287, vU, vU] [.int 2, (.int (pi1 &&& (3 : Int32)))]) (fun _ k => st1344.trans (XS.pop X1344.here hx rfl (hb hby at_191) rfl rfl (XS.iloadN X1344.here hx rfl (hb hby at_192) rfl (XS.iconst X1344.here hx rfl (hb hby at_193) k)))) ?_
     by_cases hc1352 : (2 : Int32) < (pi1 &&& (3 : Int32))
     ·
      refine og T1344 (mkF m 201 #[vI pi0, vI pi1, vI 1, vI (pi1 &&& (3 : Int32)), vR b170, vR b199, vR b1287, vU, vU] [.ref b170, .ref b199]) (fun _ k => XS.icmpNo X1344.here hx rfl (hb hby at_194) rfl (tlt hc1352).2.2.2 (XS.aload X1344.here hx rfl (hb hby at_197) rfl rfl (XS.aload X1344.here hx rfl (hb hby at_199) rfl rfl k))) ?_
      have F1353 := (F1338.keep K1344)
      have F1354 := (F1339.keep K1344)
      have F1355 := (F1340.keep K1344)
      have F1356 := (F1342.keep K1344 (ninS ne219 (ninS ne1341 nin0)))
      have F1357 := (F1343.keep K1344 (allS g200 (allS g233 all0)))
      obtain ⟨_, T1358, L1358, X1358, hQ1358, st1358⟩ := own_vc X1344 hx hZ hown (ow hw 65) (ow hw 66) (ow hw 68) (ow hw 67) F1353 (rm10_60 l Z a0 hw b199 o223 kc224 b170 el ee kee T1344.heap n0 F1357 EE0 FE0 VE0 f1345 F1353 f1346 F1354 F1355 F1356 f1349 f232 f1347 f1348 g200 ne219 (Ne.symm (own_ne_lo (Nat.lt_of_lt_of_le A199.lt K207.1) f225)) g233) (ow hw 69) (ow hw 6) rfl (g := (mkF m 201 #[vI pi0, vI pi1, vI 1, vI (pi1 &&& (3 : Int32)), vR b170, vR b199, vR b1287, vU, vU] [.ref b170, .ref b199])) rfl (zs hml) (argsL := [.ref b170]) (rest := []) (lenOf pd_24 rfl) rfl (hb hby at_201) (W := 0) rfl
      obtain ⟨rfl, Nq1358, K1358, f1359, f1360, f1361, f1362, f1363⟩ := hQ1358
      have N1358 := Fr.app N1344 Nq1358
      have ch1364 := CHr.keep K1358 (allS (Safe.exa hZ.alike F1353 (by decide) (by decide)) (allS (Safe.exa hZ.alike F1354 (by decide) (by decide)) all0)) CH1351.1
      have CH1365 := CHr.trans CH1351 ch1364
      refine og T1358 (mkF m 205 #[vI pi0, vI pi1, vI 1, vI (pi1 &&& (3 : Int32)), vR b170, vR b199, vR b1287, vU, vU] []) (fun _ k => st1358.trans (XS.pop X1358.here hx rfl (hb hby at_204) rfl rfl k)) ?_
      have F1366 := ((((A1287.keep K1304).keep K1329).keep K1344).keep K1358)
      have F1367 := (((f1307.keep K1329 (ninS (Ne.symm ne1317) (ninS (Ne.symm (own_ne_lo f230.lt (Nat.le_of_eq gb1287.symm))) nin0))).keep K1344 (ninS (Ne.symm ne1317) (ninS (Ne.symm (own_ne_lo f230.lt (Nat.le_of_eq gb1287.symm))) nin0))).keep K1358 (ninS (Ne.symm ne1317) (ninS (Ne.symm (own_ne_lo f230.lt (Nat.le_of_eq gb1287.symm))) nin0)))
      have F1368 := (((f1308.keep K1329).keep K1344).keep K1358)
      have ne1369 : b199 ≠ o1305 := (own_ne_lo (Nat.lt_of_lt_of_le (Nat.lt_of_lt_of_le (Nat.lt_of_lt_of_le A199.lt K207.1) K222.1) E1287.1) f1306)
      have F1370 := (((f1309.keep K1329 (ninS (Ne.symm ne1369) (ninS (Ne.symm (own_ne_lo (Nat.lt_of_lt_of_le f230.lt E1287.1) f1306)) nin0))).keep K1344 (ninS (Ne.symm ne1369) (ninS (Ne.symm (own_ne_lo (Nat.lt_of_lt_of_le f230.lt E1287.1) f1306)) nin0))).keep K1358 (ninS (Ne.symm ne1369) (ninS (Ne.symm (own_ne_lo (Nat.lt_of_lt_of_le f230.lt E1287.1) f1306)) nin0)))
      have KEEP := (((KP1315.trans K1329 (allS (Or.inr z202) (allS (Or.inr z234) all0))).trans K1344 (allS (Or.inr z202) (allS (Or.inr z234) all0))).trans K1358 (allS (Or.inr z202) (allS (Or.inr z234) all0)))
      exact J1 _ _ _ b170 b199 b1287 o1305 o1305 (1 : Int32) (own_wk X1358 (lb rfl) (lb rfl)) rfl N1358 KEEP z1290 F1366 F1367 (Or.inr ⟨F1368, _, F1370, Or.inl ⟨rfl, rfl⟩⟩) F1368.lt F1368.lt ⟨⟨1, by decide⟩, rfl⟩
     ·
      refine og T1344 (mkF m 205 #[vI pi0, vI pi1, vI 1, vI (pi1 &&& (3 : Int32)), vR b170, vR b199, vR b1287, vU, vU] []) (fun _ k => XS.icmpYes X1344.here hx rfl (pc0 := 194) (pc' := 205) rfl (hb hby at_194) rfl (flt hc1352).2.2.2 (by decide) (by decide) k) ?_
      have F1371 := (((A1287.keep K1304).keep K1329).keep K1344)
      have F1372 := ((f1307.keep K1329 (ninS (Ne.symm ne1317) (ninS (Ne.symm (own_ne_lo f230.lt (Nat.le_of_eq gb1287.symm))) nin0))).keep K1344 (ninS (Ne.symm ne1317) (ninS (Ne.symm (own_ne_lo f230.lt (Nat.le_of_eq gb1287.symm))) nin0)))
      have F1373 := ((f1308.keep K1329).keep K1344)
      have ne1374 : b199 ≠ o1305 := (own_ne_lo (Nat.lt_of_lt_of_le (Nat.lt_of_lt_of_le (Nat.lt_of_lt_of_le A199.lt K207.1) K222.1) E1287.1) f1306)
      have F1375 := ((f1309.keep K1329 (ninS (Ne.symm ne1374) (ninS (Ne.symm (own_ne_lo (Nat.lt_of_lt_of_le f230.lt E1287.1) f1306)) nin0))).keep K1344 (ninS (Ne.symm ne1374) (ninS (Ne.symm (own_ne_lo (Nat.lt_of_lt_of_le f230.lt E1287.1) f1306)) nin0)))
      have KEEP := ((KP1315.trans K1329 (allS (Or.inr z202) (allS (Or.inr z234) all0))).trans K1344 (allS (Or.inr z202) (allS (Or.inr z234) all0)))
      exact J1 _ _ _ b170 b199 b1287 o1305 o1305 (1 : Int32) (own_wk X1344 (lb rfl) (lb rfl)) rfl N1344 KEEP z1290 F1371 F1372 (Or.inr ⟨F1373, _, F1375, Or.inl ⟨rfl, rfl⟩⟩) F1373.lt F1373.lt ⟨⟨1, by decide⟩, rfl⟩
    ·
     refine og T1329 (mkF m 194 #[vI pi0, vI pi1, vI 1, vI (pi1 &&& (3 : Int32)), vR b170, vR b199, vR b1287, vU, vU] [.int 2, (.int (pi1 &&& (3 : Int32)))]) (fun _ k => XS.icmpYes X1329.here hx rfl (pc0 := 181) (pc' := 192) rfl (hb hby at_181) rfl (flt hc1337).2.2.2 (by decide) (by decide) (XS.iloadN X1329.here hx rfl (hb hby at_192) rfl (XS.iconst X1329.here hx rfl (hb hby at_193) k))) ?_
     refine og T1329 (mkF m 205 #[vI pi0, vI pi1, vI 1, vI (pi1 &&& (3 : Int32)), vR b170, vR b199, vR b1287, vU, vU] []) (fun _ k => XS.icmpYes X1329.here hx rfl (pc0 := 194) (pc' := 205) rfl (hb hby at_194) rfl (flt (own_nlt (a := (1 : Int32)) (by decide) hc1337)).2.2.2 (by decide) (by decide) k) ?_
     have F1376 := ((A1287.keep K1304).keep K1329)
     have F1377 := (f1307.keep K1329 (ninS (Ne.symm ne1317) (ninS (Ne.symm (own_ne_lo f230.lt (Nat.le_of_eq gb1287.symm))) nin0)))
     have F1378 := (f1308.keep K1329)
     have ne1379 : b199 ≠ o1305 := (own_ne_lo (Nat.lt_of_lt_of_le (Nat.lt_of_lt_of_le (Nat.lt_of_lt_of_le A199.lt K207.1) K222.1) E1287.1) f1306)
     have F1380 := (f1309.keep K1329 (ninS (Ne.symm ne1379) (ninS (Ne.symm (own_ne_lo (Nat.lt_of_lt_of_le f230.lt E1287.1) f1306)) nin0)))
     have KEEP := (KP1315.trans K1329 (allS (Or.inr z202) (allS (Or.inr z234) all0)))
     exact J1 _ _ _ b170 b199 b1287 o1305 o1305 (1 : Int32) (own_wk X1329 (lb rfl) (lb rfl)) rfl N1329 KEEP z1290 F1376 F1377 (Or.inr ⟨F1378, _, F1380, Or.inl ⟨rfl, rfl⟩⟩) F1378.lt F1378.lt ⟨⟨1, by decide⟩, rfl⟩
   ·
    refine og T1304 (mkF m 181 #[vI pi0, vI pi1, vI 1, vI (pi1 &&& (3 : Int32)), vR b170, vR b199, vR b1287, vU, vU] [.int 1, (.int (pi1 &&& (3 : Int32)))]) (fun _ k => XS.ifYes X1304.here hx rfl (pc0 := 168) (pc' := 179) rfl (hb hby at_168) rfl ((if0 _ _).trans (flt hc1316).2.2.2) (by decide) (by decide) (XS.iloadN X1304.here hx rfl (hb hby at_179) rfl (XS.iconst X1304.here hx rfl (hb hby at_180) k))) ?_
    refine og T1304 (mkF m 194 #[vI pi0, vI pi1, vI 1, vI (pi1 &&& (3 : Int32)), vR b170, vR b199, vR b1287, vU, vU] [.int 2, (.int (pi1 &&& (3 : Int32)))]) (fun _ k => XS.icmpYes X1304.here hx rfl (pc0 := 181) (pc' := 192) rfl (hb hby at_181) rfl (flt (own_nlt (a := (0 : Int32)) (by decide) hc1316)).2.2.2 (by decide) (by decide) (XS.iloadN X1304.here hx rfl (hb hby at_192) rfl (XS.iconst X1304.here hx rfl (hb hby at_193) k))) ?_
    refine og T1304 (mkF m 205 #[vI pi0, vI pi1, vI 1, vI (pi1 &&& (3 : Int32)), vR b170, vR b199, vR b1287, vU, vU] []) (fun _ k => XS.icmpYes X1304.here hx rfl (pc0 := 194) (pc' := 205) rfl (hb hby at_194) rfl (flt (own_nlt (a := (1 : Int32)) (by decide) (own_nlt (a := (0 : Int32)) (by decide) hc1316))).2.2.2 (by decide) (by decide) k) ?_
    have F1381 := (A1287.keep K1304)
    have KEEP := KP1315
    exact J1 _ _ _ b170 b199 b1287 o1305 o1305 (1 : Int32) (own_wk X1304 (lb rfl) (lb rfl)) rfl N1304 KEEP z1290 F1381 f1307 (Or.inr ⟨f1308, _, f1309, Or.inl ⟨rfl, rfl⟩⟩) f1308.lt f1308.lt ⟨⟨1, by decide⟩, rfl⟩
 ·
  have hm : nm = (0 : Int32) := own_eqk hr0 hc216 (by decide)
  rw [hm]
  refine og T207 (mkF m 88 #[vI pi0, vI pi1, vI 0, vI (pi1 &&& (3 : Int32)), vR b170, vR b199, vU, vU, vU] []) (fun _ k => XS.ifYes X207.here hx rfl (pc0 := 38) (pc' := 49) rfl (hb hby at_38) rfl ((if0 _ _).trans (flt (by decide : ¬ ((0 : Int32) < (0 : Int32)))).2.2.2) (by decide) (by decide) (XS.iloadN X207.here hx rfl (hb hby at_49) rfl (XS.iconst X207.here hx rfl (hb hby at_50) (XS.icmpYes X207.here hx rfl (pc0 := 51) (pc' := 62) rfl (hb hby at_51) rfl (flt (by decide : ¬ ((1 : Int32) < (0 : Int32)))).2.2.2 (by decide) (by decide) (XS.iloadN X207.here hx rfl (hb hby at_62) rfl (XS.iconst X207.here hx rfl (hb hby at_63) (XS.icmpYes X207.here hx rfl (pc0 := 64) (pc' := 75) rfl (hb hby at_64) rfl (flt (by decide : ¬ ((2 : Int32) < (0 : Int32)))).2.2.2 (by decide) (by decide) (XS.iloadN X207.here hx rfl (hb hby at_75) rfl (XS.iconst X207.here hx rfl (hb hby at_76) (XS.icmpYes X207.here hx rfl (pc0 := 77) (pc' := 88) rfl (hb hby at_77) rfl (flt (by decide : ¬ ((3 : Int32) < (0 : Int32)))).2.2.2 (by decide) (by decide) k)))))))))) ?_
  refine og T207 (mkF m 129 #[vI pi0, vI pi1, vI 0, vI (pi1 &&& (3 : Int32)), vR b170, vR b199, vU, vU, vU] [.int 0]) (fun _ k => XS.iloadN X207.here hx rfl (hb hby at_88) rfl (XS.iconst X207.here hx rfl (hb hby at_89) (XS.icmpYes X207.here hx rfl (pc0 := 90) (pc' := 101) rfl (hb hby at_90) rfl (flt (by decide : ¬ ((4 : Int32) < (0 : Int32)))).2.2.2 (by decide) (by decide) (XS.iloadN X207.here hx rfl (hb hby at_101) rfl (XS.iconst X207.here hx rfl (hb hby at_102) (XS.icmpYes X207.here hx rfl (pc0 := 103) (pc' := 114) rfl (hb hby at_103) rfl (flt (by decide : ¬ ((5 : Int32) < (0 : Int32)))).2.2.2 (by decide) (by decide) (XS.iloadN X207.here hx rfl (hb hby at_114) rfl (XS.bipush X207.here hx rfl (hb hby at_115) (XS.icmpYes X207.here hx rfl (pc0 := 117) (pc' := 128) rfl (hb hby at_117) rfl (flt (by decide : ¬ ((6 : Int32) < (0 : Int32)))).2.2.2 (by decide) (by decide) (XS.iloadN X207.here hx rfl (hb hby at_128) rfl k)))))))))) ?_
  refine og T207 (mkF m 156 #[vI pi0, vI pi1, vI 0, vI (pi1 &&& (3 : Int32)), vR b170, vR b199, vU, vU, vU] []) (fun _ k => XS.bipush X207.here hx rfl (hb hby at_129) (XS.icmpYes X207.here hx rfl (pc0 := 131) (pc' := 142) rfl (hb hby at_131) rfl (flt (by decide : ¬ ((7 : Int32) < (0 : Int32)))).2.2.2 (by decide) (by decide) (XS.iloadN X207.here hx rfl (hb hby at_142) rfl (XS.bipush X207.here hx rfl (hb hby at_143) (XS.icmpYes X207.here hx rfl (pc0 := 145) (pc' := 156) rfl (hb hby at_145) rfl (flt (by decide : ¬ ((8 : Int32) < (0 : Int32)))).2.2.2 (by decide) (by decide) k))))) ?_
  have KP1382 := KP214
  obtain ⟨T1383, h1383, X1383, e1383, E1383, A1383, D1383, U1383, st1383⟩ := newO X207 hx hZ hown (ow hw 1) (ow hw 2) (ow hw 3) rfl (g := (mkF m 156 #[vI pi0, vI pi1, vI 0, vI (pi1 &&& (3 : Int32)), vR b170, vR b199, vU, vU, vU] [])) rfl (hb hby at_156) (lb rfl) (lb rfl)
  obtain ⟨b1383, gb1383⟩ : ∃ z, z = T207.heap.size := ⟨_, rfl⟩
  rw [← gb1383] at A1383 D1383 U1383 st1383
  have F1385 := (F206.keep K207 (allS g200 all0))
  have g1384 : n0 ≤ b1383 := Nat.le_trans (own_osz F1385) (Nat.le_of_eq gb1383.symm)
  have F1387 := (Nat.le_trans (Nat.le_trans F203 E199.1) K207.1)
  have z1386 : h0.size ≤ b1383 := Nat.le_trans F1387 (Nat.le_of_eq gb1383.symm)
  have ch1388 := CHr.ext E1383 CH213.1
  have CH1389 := CHr.trans CH213 ch1388
  refine og T1383 (mkF m 162 #[vI pi0, vI pi1, vI 0, vI (pi1 &&& (3 : Int32)), vR b170, vR b199, vU, vU, vU] [.ref b199, .ref b1383, .ref b1383]) (fun _ k => st1383 _ (XS.dup X1383.here hx rfl (hb hby at_159) rfl rfl (XS.aload X1383.here hx rfl (hb hby at_160) rfl rfl k))) ?_
  have F1390 := (f208.ext E1383)
  have F1391 := ((A199.keep K207).ext E1383)
  have F1392 := (f209.ext E1383)
  have F1393 := (f210.ext E1383)
  have F1394 := (f211.ext E1383)
  have F1395 := (F1385.ext E1383)
  obtain ⟨_, T1396, L1396, X1396, hQ1396, st1396⟩ := own_sc X1383 hx hZ rfl hown (ow hw 30) (ow hw 31) (rm5_46 l Z a0 hw b1383 b199 da kda el ee kee h1383 n0 F1395 VD0 A1383 (D1383 (Or.inr (ow hw 64)) (ty := (.object "java/util/List")) (by decide)) F1390 F1391 F1392 F1393 F1394 SE0 EE0 FE0 VE0 g1384) (ow hw 32) (ow hw 3) e1383 (g := (mkF m 162 #[vI pi0, vI pi1, vI 0, vI (pi1 &&& (3 : Int32)), vR b170, vR b199, vU, vU, vU] [.ref b199, .ref b1383, .ref b1383])) rfl (zs hml) (argsL := [.ref b199]) (rest := [.ref b1383]) (lenOf pd_27 rfl) rfl (hb hby at_162) (W := 1) rfl
  obtain ⟨hc1397, rfl, Nq1396, K1396, f1398⟩ := hQ1396
  have N1396 := Fr.app N207 Nq1396
  have ch1399 := CHr.keep K1396 (allS (Safe.exa hZ.alike A1383 (by decide) (by decide)) all0) CH1389.1
  have CH1400 := CHr.trans CH1389 ch1399
  refine og T1396 (mkF m 167 #[vI pi0, vI pi1, vI 0, vI (pi1 &&& (3 : Int32)), vR b170, vR b199, vR b1383, vU, vU] []) (fun _ k => st1396.trans (XS.astore X1396.here hx rfl (hb hby at_165) rfl rfl (l' := #[vI pi0, vI pi1, vI 0, vI (pi1 &&& (3 : Int32)), vR b170, vR b199, vR b1383, vU, vU]) rfl k)) ?_
  have KP1401 := ((KP1382.ext E1383).trans K1396 (allS (Or.inr z1386) all0))
  refine og T1396 (mkF m 168 #[vI pi0, vI pi1, vI 0, vI (pi1 &&& (3 : Int32)), vR b170, vR b199, vR b1383, vU, vU] [(.int (pi1 &&& (3 : Int32)))]) (fun _ k => XS.iloadN X1396.here hx rfl (hb hby at_167) rfl k) ?_
  by_cases hc1402 : (0 : Int32) < (pi1 &&& (3 : Int32))
  ·
   refine og T1396 (mkF m 175 #[vI pi0, vI pi1, vI 0, vI (pi1 &&& (3 : Int32)), vR b170, vR b199, vR b1383, vU, vU] [.ref b170, .ref b199]) (fun _ k => XS.ifNo X1396.here hx rfl (hb hby at_168) rfl ((if0 _ _).trans (tlt hc1402).2.2.2) (XS.aload X1396.here hx rfl (hb hby at_171) rfl rfl (XS.aload X1396.here hx rfl (hb hby at_173) rfl rfl k))) ?_
   have ne1403 : b199 ≠ b1383 := (own_ne_lo (Nat.lt_of_lt_of_le A199.lt K207.1) (Nat.le_of_eq gb1383.symm))
   have F1404 := (F1390.keep K1396 (ninS ne1403 nin0))
   have F1405 := (F1391.keep K1396)
   have F1406 := (F1392.keep K1396 (ninS ne1403 nin0))
   have F1407 := (F1393.keep K1396 (ninS ne1403 nin0))
   have F1408 := (F1394.keep K1396 (ninS ne1403 nin0))
   have F1409 := ((((F190.keep K194).ext E199).keep K207).ext E1383)
   have F1410 := (F1409.keep K1396)
   have ne1411 : b170 ≠ b199 := (own_ne_lo (Nat.lt_of_lt_of_le (Nat.lt_of_lt_of_le (Nat.lt_of_lt_of_le A170.lt E175.1) K183.1) K194.1) (Nat.le_of_eq gb199.symm))
   have ne1412 : b170 ≠ b1383 := (own_ne_lo (Nat.lt_of_lt_of_le (Nat.lt_of_lt_of_le (Nat.lt_of_lt_of_le (Nat.lt_of_lt_of_le (Nat.lt_of_lt_of_le A170.lt E175.1) K183.1) K194.1) E199.1) K207.1) (Nat.le_of_eq gb1383.symm))
   have F1413 := ((((f196.ext E199).keep K207 (ninS ne1411 nin0)).ext E1383).keep K1396 (ninS ne1412 nin0))
   have F1414 := (F1395.keep K1396 (allS g1384 all0))
   obtain ⟨_, T1415, L1415, X1415, hQ1415, st1415⟩ := own_vc X1396 hx hZ hown (ow hw 65) (ow hw 66) (ow hw 68) (ow hw 67) F1405 (rm10_51 l Z a0 hw b199 b170 da kda el ee kee T1396.heap n0 F1414 VD0 EE0 FE0 VE0 F1404 F1405 F1406 F1407 F1408 F1410 F1413 g200 ne1411 SD0) (ow hw 69) (ow hw 6) rfl (g := (mkF m 175 #[vI pi0, vI pi1, vI 0, vI (pi1 &&& (3 : Int32)), vR b170, vR b199, vR b1383, vU, vU] [.ref b170, .ref b199])) rfl (zs hml) (argsL := [.ref b170]) (rest := []) (lenOf pd_24 rfl) rfl (hb hby at_175) (W := 0) rfl
   obtain ⟨o1416, kc1417, rfl, Nq1415, K1415, f1418, f1419, f1420, f1421, f1422, f1423, f1424, f1425⟩ := hQ1415
   have N1415 := Fr.app N1396 Nq1415
   have g1426 : n0 ≤ o1416 := Nat.le_trans (own_osz F1414) f1418
   have F1428 := (Nat.le_trans (Nat.le_trans F1387 E1383.1) K1396.1)
   have z1427 : h0.size ≤ o1416 := Nat.le_trans F1428 f1418
   have ch1429 := CHr.keep K1415 (allS (Safe.exa hZ.alike F1405 (by decide) (by decide)) all0) CH1400.1
   have CH1430 := CHr.trans CH1400 ch1429
   refine og T1415 (mkF m 181 #[vI pi0, vI pi1, vI 0, vI (pi1 &&& (3 : Int32)), vR b170, vR b199, vR b1383, vU, vU] [.int 1, (.int (pi1 &&& (3 : Int32)))]) (fun _ k => st1415.trans (XS.pop X1415.here hx rfl (hb hby at_178) rfl rfl (XS.iloadN X1415.here hx rfl (hb hby at_179) rfl (XS.iconst X1415.here hx rfl (hb hby at_180) k)))) ?_
   by_cases hc1431 : (1 : Int32) < (pi1 &&& (3 : Int32))
   ·
    refine og T1415 (mkF m 188 #[vI pi0, vI pi1, vI 0, vI (pi1 &&& (3 : Int32)), vR b170, vR b199, vR b1383, vU, vU] [.ref b170, .ref b199]) (fun _ k => XS.icmpNo X1415.here hx rfl (hb hby at_181) rfl (tlt hc1431).2.2.2 (XS.aload X1415.here hx rfl (hb hby at_184) rfl rfl (XS.aload X1415.here hx rfl (hb hby at_186) rfl rfl k))) ?_
    have F1432 := (F1405.keep K1415)
    have F1433 := (F1410.keep K1415)
    have F1434 := (F1413.keep K1415 (ninS ne1411 nin0))
    have ne1435 : b199 ≠ o1416 := (own_ne_lo (Nat.lt_of_lt_of_le (Nat.lt_of_lt_of_le (Nat.lt_of_lt_of_le A199.lt K207.1) E1383.1) K1396.1) f1418)
    have F1436 := (F1414.keep K1415 (allS g200 all0))
    obtain ⟨_, T1437, L1437, X1437, hQ1437, st1437⟩ := own_vc X1415 hx hZ hown (ow hw 65) (ow hw 66) (ow hw 68) (ow hw 67) F1432 (rm10_56 l Z a0 hw b199 o1416 kc1417 b170 el ee kee T1415.heap n0 F1436 EE0 FE0 VE0 f1419 F1432 f1420 f1423 F1433 F1434 f1424 f1425 f1421 f1422 g200 ne1411 (Ne.symm ne1435) g1426) (ow hw 69) (ow hw 6) rfl (g := (mkF m 188 #[vI pi0, vI pi1, vI 0, vI (pi1 &&& (3 : Int32)), vR b170, vR b199, vR b1383, vU, vU] [.ref b170, .ref b199])) rfl (zs hml) (argsL := [.ref b170]) (rest := []) (lenOf pd_24 rfl) rfl (hb hby at_188) (W := 0) rfl
    obtain ⟨rfl, Nq1437, K1437, f1438, f1439, f1440, f1441, f1442⟩ := hQ1437
    have N1437 := Fr.app N1415 Nq1437
    have ch1443 := CHr.keep K1437 (allS (Safe.exa hZ.alike F1432 (by decide) (by decide)) (allS (Safe.exa hZ.alike f1423 (by decide) (by decide)) all0)) CH1430.1
    have CH1444 := CHr.trans CH1430 ch1443
    refine og T1437 (mkF m 194 #[vI pi0, vI pi1, vI 0, vI (pi1 &&& (3 : Int32)), vR b170, vR b199, vR b1383, vU, vU] [.int 2, (.int (pi1 &&& (3 : Int32)))]) (fun _ k => st1437.trans (XS.pop X1437.here hx rfl (hb hby at_191) rfl rfl (XS.iloadN X1437.here hx rfl (hb hby at_192) rfl (XS.iconst X1437.here hx rfl (hb hby at_193) k)))) ?_
    by_cases hc1445 : (2 : Int32) < (pi1 &&& (3 : Int32))
    ·
     refine og T1437 (mkF m 201 #[vI pi0, vI pi1, vI 0, vI (pi1 &&& (3 : Int32)), vR b170, vR b199, vR b1383, vU, vU] [.ref b170, .ref b199]) (fun _ k => XS.icmpNo X1437.here hx rfl (hb hby at_194) rfl (tlt hc1445).2.2.2 (XS.aload X1437.here hx rfl (hb hby at_197) rfl rfl (XS.aload X1437.here hx rfl (hb hby at_199) rfl rfl k))) ?_
     have F1446 := (F1432.keep K1437)
     have F1447 := (f1423.keep K1437)
     have F1448 := (F1433.keep K1437)
     have ne1449 : b170 ≠ o1416 := (own_ne_lo (Nat.lt_of_lt_of_le (Nat.lt_of_lt_of_le (Nat.lt_of_lt_of_le (Nat.lt_of_lt_of_le (Nat.lt_of_lt_of_le (Nat.lt_of_lt_of_le (Nat.lt_of_lt_of_le A170.lt E175.1) K183.1) K194.1) E199.1) K207.1) E1383.1) K1396.1) f1418)
     have F1450 := (F1434.keep K1437 (ninS ne1411 (ninS ne1449 nin0)))
     have F1451 := (F1436.keep K1437 (allS g200 (allS g1426 all0)))
     obtain ⟨_, T1452, L1452, X1452, hQ1452, st1452⟩ := own_vc X1437 hx hZ hown (ow hw 65) (ow hw 66) (ow hw 68) (ow hw 67) F1446 (rm10_58 l Z a0 hw b199 o1416 kc1417 b170 el ee kee T1437.heap n0 F1451 EE0 FE0 VE0 f1438 F1446 f1439 F1447 F1448 F1450 f1442 f1425 f1440 f1441 g200 ne1411 (Ne.symm ne1435) g1426) (ow hw 69) (ow hw 6) rfl (g := (mkF m 201 #[vI pi0, vI pi1, vI 0, vI (pi1 &&& (3 : Int32)), vR b170, vR b199, vR b1383, vU, vU] [.ref b170, .ref b199])) rfl (zs hml) (argsL := [.ref b170]) (rest := []) (lenOf pd_24 rfl) rfl (hb hby at_201) (W := 0) rfl
     obtain ⟨rfl, Nq1452, K1452, f1453, f1454, f1455, f1456, f1457⟩ := hQ1452
     have N1452 := Fr.app N1437 Nq1452
     have ch1458 := CHr.keep K1452 (allS (Safe.exa hZ.alike F1446 (by decide) (by decide)) (allS (Safe.exa hZ.alike F1447 (by decide) (by decide)) all0)) CH1444.1
     have CH1459 := CHr.trans CH1444 ch1458
     refine og T1452 (mkF m 205 #[vI pi0, vI pi1, vI 0, vI (pi1 &&& (3 : Int32)), vR b170, vR b199, vR b1383, vU, vU] []) (fun _ k => st1452.trans (XS.pop X1452.here hx rfl (hb hby at_204) rfl rfl k)) ?_
     have F1460 := ((((A1383.keep K1396).keep K1415).keep K1437).keep K1452)
     have F1461 := (((f1398.keep K1415 (ninS (Ne.symm ne1403) nin0)).keep K1437 (ninS (Ne.symm ne1403) (ninS (own_ne_lo (Nat.lt_of_lt_of_le A1383.lt K1396.1) f1418) nin0))).keep K1452 (ninS (Ne.symm ne1403) (ninS (own_ne_lo (Nat.lt_of_lt_of_le A1383.lt K1396.1) f1418) nin0)))
     have F1462 := (F1451.keep K1452 (allS g200 (allS g1426 all0)))
     have KEEP := (((KP1401.trans K1415 (allS (Or.inr z202) all0)).trans K1437 (allS (Or.inr z202) (allS (Or.inr z1427) all0))).trans K1452 (allS (Or.inr z202) (allS (Or.inr z1427) all0)))
     exact J1 _ _ _ b170 b199 b1383 el ee (0 : Int32) (own_wk X1452 (lb rfl) (lb rfl)) rfl N1452 KEEP z1386 F1460 F1461 (Or.inl ⟨own_isx (EE0.ext F1462.2), (FE0.ext F1462.2), _, _, (VE0.ext F1462.2)⟩) (EE0.ext F1462.2).lt (VE0.ext F1462.2).lt ⟨⟨0, by decide⟩, rfl⟩
    ·
     refine og T1437 (mkF m 205 #[vI pi0, vI pi1, vI 0, vI (pi1 &&& (3 : Int32)), vR b170, vR b199, vR b1383, vU, vU] []) (fun _ k => XS.icmpYes X1437.here hx rfl (pc0 := 194) (pc' := 205) rfl (hb hby at_194) rfl (flt hc1445).2.2.2 (by decide) (by decide) k) ?_
     have F1463 := (((A1383.keep K1396).keep K1415).keep K1437)
     have F1464 := ((f1398.keep K1415 (ninS (Ne.symm ne1403) nin0)).keep K1437 (ninS (Ne.symm ne1403) (ninS (own_ne_lo (Nat.lt_of_lt_of_le A1383.lt K1396.1) f1418) nin0)))
     have F1465 := (F1436.keep K1437 (allS g200 (allS g1426 all0)))
     have KEEP := ((KP1401.trans K1415 (allS (Or.inr z202) all0)).trans K1437 (allS (Or.inr z202) (allS (Or.inr z1427) all0)))
     exact J1 _ _ _ b170 b199 b1383 el ee (0 : Int32) (own_wk X1437 (lb rfl) (lb rfl)) rfl N1437 KEEP z1386 F1463 F1464 (Or.inl ⟨own_isx (EE0.ext F1465.2), (FE0.ext F1465.2), _, _, (VE0.ext F1465.2)⟩) (EE0.ext F1465.2).lt (VE0.ext F1465.2).lt ⟨⟨0, by decide⟩, rfl⟩
   ·
    refine og T1415 (mkF m 194 #[vI pi0, vI pi1, vI 0, vI (pi1 &&& (3 : Int32)), vR b170, vR b199, vR b1383, vU, vU] [.int 2, (.int (pi1 &&& (3 : Int32)))]) (fun _ k => XS.icmpYes X1415.here hx rfl (pc0 := 181) (pc' := 192) rfl (hb hby at_181) rfl (flt hc1431).2.2.2 (by decide) (by decide) (XS.iloadN X1415.here hx rfl (hb hby at_192) rfl (XS.iconst X1415.here hx rfl (hb hby at_193) k))) ?_
    refine og T1415 (mkF m 205 #[vI pi0, vI pi1, vI 0, vI (pi1 &&& (3 : Int32)), vR b170, vR b199, vR b1383, vU, vU] []) (fun _ k => XS.icmpYes X1415.here hx rfl (pc0 := 194) (pc' := 205) rfl (hb hby at_194) rfl (flt (own_nlt (a := (1 : Int32)) (by decide) hc1431)).2.2.2 (by decide) (by decide) k) ?_
    have F1466 := ((A1383.keep K1396).keep K1415)
    have F1467 := (f1398.keep K1415 (ninS (Ne.symm ne1403) nin0))
    have F1468 := (F1414.keep K1415 (allS g200 all0))
    have KEEP := (KP1401.trans K1415 (allS (Or.inr z202) all0))
    exact J1 _ _ _ b170 b199 b1383 el ee (0 : Int32) (own_wk X1415 (lb rfl) (lb rfl)) rfl N1415 KEEP z1386 F1466 F1467 (Or.inl ⟨own_isx (EE0.ext F1468.2), (FE0.ext F1468.2), _, _, (VE0.ext F1468.2)⟩) (EE0.ext F1468.2).lt (VE0.ext F1468.2).lt ⟨⟨0, by decide⟩, rfl⟩
  ·
   refine og T1396 (mkF m 181 #[vI pi0, vI pi1, vI 0, vI (pi1 &&& (3 : Int32)), vR b170, vR b199, vR b1383, vU, vU] [.int 1, (.int (pi1 &&& (3 : Int32)))]) (fun _ k => XS.ifYes X1396.here hx rfl (pc0 := 168) (pc' := 179) rfl (hb hby at_168) rfl ((if0 _ _).trans (flt hc1402).2.2.2) (by decide) (by decide) (XS.iloadN X1396.here hx rfl (hb hby at_179) rfl (XS.iconst X1396.here hx rfl (hb hby at_180) k))) ?_
   refine og T1396 (mkF m 194 #[vI pi0, vI pi1, vI 0, vI (pi1 &&& (3 : Int32)), vR b170, vR b199, vR b1383, vU, vU] [.int 2, (.int (pi1 &&& (3 : Int32)))]) (fun _ k => XS.icmpYes X1396.here hx rfl (pc0 := 181) (pc' := 192) rfl (hb hby at_181) rfl (flt (own_nlt (a := (0 : Int32)) (by decide) hc1402)).2.2.2 (by decide) (by decide) (XS.iloadN X1396.here hx rfl (hb hby at_192) rfl (XS.iconst X1396.here hx rfl (hb hby at_193) k))) ?_
   refine og T1396 (mkF m 205 #[vI pi0, vI pi1, vI 0, vI (pi1 &&& (3 : Int32)), vR b170, vR b199, vR b1383, vU, vU] []) (fun _ k => XS.icmpYes X1396.here hx rfl (pc0 := 194) (pc' := 205) rfl (hb hby at_194) rfl (flt (own_nlt (a := (1 : Int32)) (by decide) (own_nlt (a := (0 : Int32)) (by decide) hc1402))).2.2.2 (by decide) (by decide) k) ?_
   have F1469 := (A1383.keep K1396)
   have F1470 := (F1395.keep K1396 (allS g1384 all0))
   have KEEP := KP1401
   exact J1 _ _ _ b170 b199 b1383 el ee (0 : Int32) (own_wk X1396 (lb rfl) (lb rfl)) rfl N1396 KEEP z1386 F1469 f1398 (Or.inl ⟨own_isx (EE0.ext F1470.2), (FE0.ext F1470.2), _, _, (VE0.ext F1470.2)⟩) (EE0.ext F1470.2).lt (VE0.ext F1470.2).lt ⟨⟨0, by decide⟩, rfl⟩
set_option maxRecDepth 65536 in
set_option maxHeartbeats 40000000 in
theorem comes_1 {Post : Tables → Env → Array Value → State → Outcome → State → Prop} (hpost : ∀ tb e args s v u, (limb_1_1.after args s (.returned v) u = true ∧ limb_1_2.after args s (.returned v) u = true ∧ True) → ReturnedEndW s (.returned v) u (Jvm.fieldLocs frame_1_writes args s ++ Jvm.arrayLocs frame_1_arrays args s ++ Jvm.staticLocs frame_1_statics s) 48 2496 → Post tb e args s (.returned v) u) :
    ArmFor flags0 classFile x code maxLocals ret World_1 tables_1 room_1 Calls_1 rest_1 Pre_1 Post := by
  intro l hfl _ _ p e ha hc hk s m args below hf hA hF happ hP
  obtain ⟨hcalls, hrest, hpre⟩ := hP
  obtain ⟨-, -, -, hnamed, -, -, -, hat⟩ := (Spec.applies_iff hf).mp happ
  obtain ⟨hg, hn⟩ := and_e (Cond.before_iff.mp (show (Jvm.Cond.and given_1 narrow_1).before args s = true from hpre))
  obtain ⟨gv0, gr0⟩ := and_e hg
  obtain ⟨gv1, gv2⟩ := and_e gr0
  obtain ⟨w0, w1, rfl⟩ : ∃ w0 w1 : Value, args = #[w0, w1] := by
    have hs : args.size = 2 := by simpa [Cond.value, given_1] using gv0
    obtain ⟨L⟩ := args
    match L, hs with
    | [w0, w1], _ => exact ⟨w0, w1, rfl⟩
  have hw := fun d (hd : d ∈ tables_1) => atoms_spec (ws := Jvm.Cond.code x code maxLocals ret :: tables_1) hat d (List.mem_cons_of_mem _ hd)
  have hfit : Fit s := fun {y c} hc i hi => by
    obtain ⟨ha, rfl⟩ := Array.getElem?_eq_some_iff.mp hc
    have q := List.all_eq_true.mp ((Array.all_eq_true_iff_forall_mem.mp hF) _ (Array.getElem_mem ha)) i (List.mem_range.mpr hi)
    simpa [Array.getElem?_eq_getElem hi] using q
  obtain ⟨hsets, hown0⟩ := atoms_of _ (rest_1_c_eq ▸ (show rest_1_c.before _ s = true from hrest))
  obtain ⟨i0, ei0⟩ := is_v gv1
  obtain rfl : w0 = (.int i0) := Option.some.inj ei0
  obtain ⟨i1, ei1⟩ := is_v gv2
  obtain rfl : w1 = (.int i1) := Option.some.inj ei1
  have n5 := not_v (Cond.before_iff.mp (hsets _ (List.mem_of_getElem? (i := 18) rfl)))
  obtain ⟨G1, eG1⟩ := is_v (Cond.before_iff.mp (hsets _ (List.mem_of_getElem? (i := 17) rfl)))
  have O2 : Sta s s.heap "java/lang/String" "COMPACT_STRINGS" "Z" (.int G1) := Sta.start eG1 (Or.inl (hsets _ (List.mem_of_getElem? (i := 16) rfl)))
  have P5 : ¬ (G1 = (0 : Int32)) := gotF (Cond.eq_ints eG1 (Term.int_eval (0))) n5
  have CHs : CHv s own_EL s.vm s.heap := CHv.start (own_EW hw) (fun p hp => own_held hcalls p hp) (hsets _ (List.mem_of_getElem? (i := 18) rfl)) (own_wa hw) (own_wi hw)
  obtain ⟨da, eda⟩ := exa_v (Cond.before_iff.mp (hsets _ (List.mem_of_getElem? (i := 7) rfl)))
  obtain ⟨kda, VD0⟩ := own_zarr hfit eda (hsets _ (List.mem_of_getElem? (i := 6) rfl)) (hsets _ (List.mem_of_getElem? (i := 8) rfl))
  have SD0 : Sta s s.heap "java/util/ArrayList" "DEFAULTCAPACITY_EMPTY_ELEMENTDATA" "[Ljava/lang/Object;" (.ref da) := Sta.start eda (Or.inr ⟨(own_w hw 6), (hsets _ (List.mem_of_getElem? (i := 2) rfl))⟩)
  obtain ⟨el, eel⟩ := exa_v (Cond.before_iff.mp (hsets _ (List.mem_of_getElem? (i := 11) rfl)))
  have EE0 : Exa s s.heap el "java/util/ImmutableCollections$ListN" := Exa.start eel (Cond.before_iff.mp (hsets _ (List.mem_of_getElem? (i := 11) rfl)))
  have SE0 : Sta s s.heap "java/util/ImmutableCollections" "EMPTY_LIST" "Ljava/util/ImmutableCollections$ListN;" (.ref el) := Sta.start eel (Or.inl (hsets _ (List.mem_of_getElem? (i := 10) rfl)))
  obtain ⟨ee, eee⟩ := exa_v (Cond.before_iff.mp (hsets _ (List.mem_of_getElem? (i := 13) rfl)))
  obtain ⟨kee, VE0⟩ := own_zarr hfit eee (hsets _ (List.mem_of_getElem? (i := 12) rfl)) (hsets _ (List.mem_of_getElem? (i := 14) rfl))
  have FE0 : Fld s s.heap el "java/util/ImmutableCollections$ListN" "elements" "[Ljava/lang/Object;" (.ref ee) := Fld.start (own_fev eel eee)
  obtain ⟨em, eem⟩ := exa_v (Cond.before_iff.mp (hsets _ (List.mem_of_getElem? (i := 38) rfl)))
  have EM0 : Exa s s.heap em "java/lang/Object" := Exa.start eem (Cond.before_iff.mp (hsets _ (List.mem_of_getElem? (i := 38) rfl)))
  have SM0 : Sta s s.heap "java/util/ImmutableCollections" "EMPTY" "Ljava/lang/Object;" (.ref em) := Sta.start eem (Or.inl (hsets _ (List.mem_of_getElem? (i := 37) rfl)))
  obtain ⟨dg, kdg, edg, VG0⟩ := own_ones hfit (hsets _ (List.mem_of_getElem? (i := 28) rfl)) (hsets _ (List.mem_of_getElem? (i := 29) rfl)) (hsets _ (List.mem_of_getElem? (i := 30) rfl)) (own_wa hw)
  have SG0 : Sta s s.heap "java/lang/Integer" "DigitOnes" "[B" (.ref dg) := Sta.start edg (Or.inl (hsets _ (List.mem_of_getElem? (i := 27) rfl)))
  obtain ⟨mo, Mmo⟩ : ∃ mo, own_Mi s "[Ljava/lang/Object;" mo := by obtain ⟨c, k, m, h1, h2, h3, -⟩ := hcalls.1; exact ⟨m, c, k, h1, h2, h3⟩
  obtain ⟨n, o, h1, h2, h3, _, L, rfl, ⟨rfl, N⟩, -, hq⟩ := rmlaw l s _ hw i0 i1 em G1 dg kdg da kda el ee kee mo s.heap s.heap.size (Old.start s) EM0 SM0 O2 P5 SG0 VG0 SD0 VD0 SE0 EE0 FE0 VE0 Mmo p e ha hc hk s m _ below hf ((Spec.applies_iff_loose hf).mp happ).1 ⟨rfl, State.Warmed39.refl s, rfl, CHs, all0⟩ nofun
  refine ⟨n, _, h1, h2, h3, hpost _ _ _ _ _ _ ⟨Cond.after_iff.mpr rfl, Cond.after_iff.mpr (eq_i res_at (Term.int_eval (1)) rfl), trivial⟩ ⟨hq.1, hq.2.1, hq.2.2.1, (hq.2.2.2.sift fun y hy => Or.inr (N y hy)).mono (by decide) (by decide)⟩⟩
theorem main_1_1 : Claimed_1_1 := comes_1 fun _ _ _ _ _ _ h hF => ⟨h.1, hF⟩
theorem main_1_2 : Claimed_1_2 := comes_1 fun _ _ _ _ _ _ h hF => ⟨h.2.1, hF⟩
end Jvm.Pilot.@@N@@
namespace Jvm.Pilot.@@N@@
open Jvm Jvm.ClassFile Sem Op Lib Jvm.Free Jvm.Stand Jvm.Pilot.@@N@@.Jvm.D
/-! MADE BY PROGRAM (witnessworld.py) out of the Statement's table words and the real class files: 45 classes; the members and pool entries that the words name. The judged class is class 1, her method 1. -/
namespace start1
set_option maxRecDepth 65536
open Jvm.ClassFile
def u (s : String) : CpInfo := .utf8 (stringToUtf16 s)
def gap : Nat → List CpInfo → List CpInfo
  | 0, r => r
  | n + 1, r => .unusable :: gap n r
def poolList (es : List (Nat × CpInfo)) (last : Nat) : List CpInfo := es.foldr (fun e r => gap e.1 (e.2 :: r)) (gap last [])
def pool (es : List (Nat × CpInfo)) (last : Nat) : Array CpInfo := ⟨poolList es last⟩
def fileOf (pool : Array CpInfo) (this : Nat) (attrs : Array Attribute := #[]) (ms : Array MethodInfo := #[]) (fl : Nat := 33) (sup : Nat := 0) (ifs : Array Nat := #[]) (fds : Array FieldInfo := #[]) : ClassFile where
  minorVersion := 0
  majorVersion := 65
  constantPool := pool
  accessFlags := fl
  thisClass := this
  superClass := sup
  interfaces := ifs
  fields := fds
  methods := ms
  attributes := attrs
def plain (name : String) (sup : Option ClassId) : Class where
  name := name
  kind := .ordinary
  loader := none
  accessFlags := 33
  super := sup
  interfaces := #[]
  cf := none
  fields := #[]
  methods := #[]
  instanceTypes := #[]
  staticTypes := #[]
  resolved := #[]
  callSites := []
  init := .initialized
  statics := none
  mirror := none

def pool0 : Array CpInfo := pool [(5, u "<init>"), (0, u "()V"), (1, .class_ 10), (1, u "java/lang/Object"), (0, u "getClass"), (0, u "()Ljava/lang/Class;")] 111

def k0c0 : Code := { maxStack := 0, maxLocals := 1, code := object_method_1_code, exceptionTable := #[], attributes := #[] }
def k0m0 : Method := ⟨"<init>", "()V", ⟨[], none⟩, 1, some k0c0⟩
def k0m1 : Method := ⟨"getClass", "()Ljava/lang/Class;", ⟨[], some (.object "java/lang/Class")⟩, 273, none⟩
def k0 : Class := { plain "java/lang/Object" none with
  accessFlags := 33
  interfaces := #[]
  cf := some (fileOf pool0 8 #[] #[⟨1, 5, 6, #[]⟩, ⟨273, 11, 12, #[]⟩] 33 0 #[] #[])
  fields := #[]
  methods := #[k0m0, k0m1]
  instanceTypes := #[]
  staticTypes := #[]
  resolved := Array.replicate 124 none
  statics := none }

def pool1 : Array CpInfo := pool [(2, .class_ 4), (0, .nameAndType 5 6), (0, u "java/lang/Object"), (0, u "<init>"), (0, u "()V"), (0, .integer 2147483647), (0, .class_ 9), (0, u "com/example/interplay/interplay/history/Group"), (0, .class_ 11), (0, u "java/util/ArrayList"), (0, .methodref 10 3), (0, .methodref 8 14), (0, .nameAndType 5 15), (0, u "(Ljava/util/List;)V"), (0, .methodref 10 17), (0, .nameAndType 18 19), (0, u "add"), (0, u "(Ljava/lang/Object;)Z"), (0, .methodref 8 21), (0, .nameAndType 22 23), (0, u "toString"), (0, u "()Ljava/lang/String;"), (0, .class_ 25), (0, u "java/lang/String"), (0, .methodref 24 27), (0, .nameAndType 5 28), (0, u "([C)V"), (0, .methodref 24 30), (0, .nameAndType 31 19), (0, u "equals"), (0, .class_ 33), (0, u "com/example/interplay/interplay/history/GroupToStringPinLaw"), (2, u "law"), (0, u "(II)Z")] 5

def k1m0 : Method := ⟨"<init>", "()V", ⟨[], none⟩, 1, none⟩
def k1c1 : Code := { maxStack := 5, maxLocals := 9, code := code, exceptionTable := #[], attributes := #[] }
def k1m1 : Method := ⟨"law", "(II)Z", ⟨[.int, .int], some .boolean⟩, 9, some k1c1⟩
def k1 : Class := { plain "com/example/interplay/interplay/history/GroupToStringPinLaw" (some 0) with
  accessFlags := 49
  interfaces := #[]
  cf := some (fileOf pool1 32 #[] #[⟨1, 5, 6, #[]⟩, ⟨9, 36, 37, #[]⟩] 49 2 #[] #[])
  fields := #[]
  methods := #[k1m0, k1m1]
  instanceTypes := #[]
  staticTypes := #[]
  resolved := Array.replicate 43 none
  statics := none }

def pool2 : Array CpInfo := pool [(11, .class_ 12), (0, u "com/example/interplay/interplay/history/Command$1"), (4, .class_ 18), (0, u "com/example/interplay/interplay/history/Command"), (0, .class_ 20), (0, u "java/lang/Object")] 9

def k2 : Class := { plain "com/example/interplay/interplay/history/Command" (some 0) with
  accessFlags := 1537
  interfaces := #[]
  cf := some (fileOf pool2 17 #[.nestMembers #[11]] #[] 1537 19 #[] #[])
  fields := #[]
  methods := #[]
  instanceTypes := #[]
  staticTypes := #[]
  resolved := Array.replicate 30 none
  statics := none }

def pool3 : Array CpInfo := pool [(1, .methodref 2 3), (0, .class_ 4), (0, .nameAndType 5 6), (0, u "java/lang/Object"), (0, u "<init>"), (0, u "()V"), (0, .interfaceMethodref 8 9), (0, .class_ 10), (0, .nameAndType 11 12), (0, u "java/util/List"), (0, u "copyOf"), (0, u "(Ljava/util/Collection;)Ljava/util/List;"), (0, .fieldref 14 15), (0, .class_ 16), (0, .nameAndType 17 18), (0, u "com/example/interplay/interplay/history/Group"), (0, u "steps"), (0, u "Ljava/util/List;"), (0, .interfaceMethodref 8 20), (0, .nameAndType 21 22), (0, u "size"), (0, u "()I"), (4, .class_ 28), (0, u "com/example/interplay/interplay/history/Command"), (21, .class_ 51), (0, u "java/lang/StringBuilder"), (0, .methodref 50 3), (0, .string 54), (0, u "group of "), (0, .methodref 50 56), (0, .nameAndType 57 58), (0, u "append"), (0, u "(Ljava/lang/String;)Ljava/lang/StringBuilder;"), (0, .methodref 50 60), (0, .nameAndType 57 61), (0, u "(I)Ljava/lang/StringBuilder;"), (0, .string 63), (0, u " commands"), (0, .methodref 50 65), (0, .nameAndType 66 67), (0, u "toString"), (0, u "()Ljava/lang/String;"), (2, u "(Ljava/util/List;)V")] 7

def k3c0 : Code := { maxStack := 2, maxLocals := 2, code := prog_29_method_1_code, exceptionTable := #[], attributes := #[] }
def k3m0 : Method := ⟨"<init>", "(Ljava/util/List;)V", ⟨[(.object "java/util/List")], none⟩, 0, some k3c0⟩
def k3c1 : Code := { maxStack := 2, maxLocals := 1, code := prog_29_method_6_code, exceptionTable := #[], attributes := #[] }
def k3m1 : Method := ⟨"toString", "()Ljava/lang/String;", ⟨[], some (.object "java/lang/String")⟩, 1, some k3c1⟩
def k3 : Class := { plain "com/example/interplay/interplay/history/Group" (some 0) with
  accessFlags := 48
  interfaces := #[2]
  cf := some (fileOf pool3 14 #[] #[⟨0, 5, 70, #[]⟩, ⟨1, 66, 67, #[]⟩] 48 2 #[27] #[⟨18, 17, 18, #[]⟩])
  fields := #[⟨"steps", (.object "java/util/List"), 18, 0, 0⟩]
  methods := #[k3m0, k3m1]
  instanceTypes := #[(.object "java/util/List")]
  staticTypes := #[]
  resolved := Array.replicate 78 none
  statics := none }

def pool4 : Array CpInfo := pool [(8, .class_ 10), (1, u "java/lang/Iterable"), (24, .class_ 36), (0, u "java/lang/Object")] 25

def k4 : Class := { plain "java/lang/Iterable" (some 0) with
  accessFlags := 1537
  interfaces := #[]
  cf := some (fileOf pool4 8 #[] #[] 1537 35 #[] #[])
  fields := #[]
  methods := #[]
  instanceTypes := #[]
  staticTypes := #[]
  resolved := Array.replicate 62 none
  statics := none }

def pool5 : Array CpInfo := pool [(10, .class_ 12), (1, u "java/util/Collection"), (0, u "toArray"), (16, u "()Z"), (29, .class_ 61), (0, u "java/lang/Object"), (0, .class_ 63), (0, u "java/lang/Iterable"), (2, u "isEmpty"), (3, u "()[Ljava/lang/Object;")] 44

def k5m0 : Method := ⟨"isEmpty", "()Z", ⟨[], some .boolean⟩, 1025, none⟩
def k5m1 : Method := ⟨"toArray", "()[Ljava/lang/Object;", ⟨[], some (.array (.object "java/lang/Object"))⟩, 1025, none⟩
def k5 : Class := { plain "java/util/Collection" (some 0) with
  accessFlags := 1537
  interfaces := #[4]
  cf := some (fileOf pool5 10 #[] #[⟨1025, 66, 30, #[]⟩, ⟨1025, 13, 70, #[]⟩] 1537 60 #[62] #[])
  fields := #[]
  methods := #[k5m0, k5m1]
  instanceTypes := #[]
  staticTypes := #[]
  resolved := Array.replicate 115 none
  statics := none }

def pool6 : Array CpInfo := pool [(1, .methodref 2 3), (0, .class_ 4), (0, .nameAndType 5 6), (0, u "java/lang/Object"), (0, u "<init>"), (0, u "()V"), (1, .class_ 10), (1, u "java/util/AbstractCollection"), (66, .class_ 78), (0, u "java/util/Collection")] 81

def k6c0 : Code := { maxStack := 1, maxLocals := 1, code := jdk_22_method_1_code, exceptionTable := #[], attributes := #[] }
def k6m0 : Method := ⟨"<init>", "()V", ⟨[], none⟩, 4, some k6c0⟩
def k6 : Class := { plain "java/util/AbstractCollection" (some 0) with
  accessFlags := 1057
  interfaces := #[5]
  cf := some (fileOf pool6 8 #[] #[⟨4, 5, 6, #[]⟩] 1057 2 #[77] #[])
  fields := #[]
  methods := #[k6m0]
  instanceTypes := #[]
  staticTypes := #[]
  resolved := Array.replicate 160 none
  statics := none }

def pool7 : Array CpInfo := pool [(8, .class_ 10), (1, u "java/util/SequencedCollection"), (15, .class_ 27), (0, u "java/lang/Object"), (0, .class_ 29), (0, u "java/util/Collection")] 27

def k7 : Class := { plain "java/util/SequencedCollection" (some 0) with
  accessFlags := 1537
  interfaces := #[5]
  cf := some (fileOf pool7 8 #[] #[] 1537 26 #[28] #[])
  fields := #[]
  methods := #[]
  instanceTypes := #[]
  staticTypes := #[]
  resolved := Array.replicate 57 none
  statics := none }

def pool8 : Array CpInfo := pool [(8, .class_ 10), (1, u "java/util/List"), (20, u "(Ljava/lang/Object;)V"), (16, u "<init>"), (30, u "size"), (0, u "()I"), (7, u "of"), (1, .fieldref 91 92), (0, .class_ 93), (0, .nameAndType 94 95), (0, u "java/util/ImmutableCollections"), (0, u "EMPTY_LIST"), (0, u "Ljava/util/ImmutableCollections$ListN;"), (0, .class_ 97), (0, u "java/util/ImmutableCollections$List12"), (0, .methodref 96 99), (0, .nameAndType 48 31), (0, .methodref 96 101), (0, .nameAndType 48 102), (0, u "(Ljava/lang/Object;Ljava/lang/Object;)V"), (0, .class_ 104), (0, u "java/lang/Object"), (3, u "([Ljava/lang/Object;)Ljava/util/List;"), (0, .methodref 91 110), (0, .nameAndType 111 108), (0, u "listFromArray"), (0, .methodref 91 113), (0, .nameAndType 114 115), (0, u "listCopy"), (0, u "(Ljava/util/Collection;)Ljava/util/List;"), (3, u "()Ljava/util/List;"), (0, .class_ 121), (0, u "java/util/SequencedCollection"), (112, u "copyOf")] 16

def k8m0 : Method := ⟨"size", "()I", ⟨[], some .int⟩, 1025, none⟩
def k8c1 : Code := { maxStack := 1, maxLocals := 0, code := jdk_40_method_36_code, exceptionTable := #[], attributes := #[] }
def k8m1 : Method := ⟨"of", "()Ljava/util/List;", ⟨[], some (.object "java/util/List")⟩, 9, some k8c1⟩
def k8c2 : Code := { maxStack := 5, maxLocals := 2, code := jdk_40_method_47_code, exceptionTable := #[], attributes := #[] }
def k8m2 : Method := ⟨"of", "([Ljava/lang/Object;)Ljava/util/List;", ⟨[(.array (.object "java/lang/Object"))], some (.object "java/util/List")⟩, 137, some k8c2⟩
def k8c3 : Code := { maxStack := 1, maxLocals := 1, code := jdk_40_method_48_code, exceptionTable := #[], attributes := #[] }
def k8m3 : Method := ⟨"copyOf", "(Ljava/util/Collection;)Ljava/util/List;", ⟨[(.object "java/util/Collection")], some (.object "java/util/List")⟩, 9, some k8c3⟩
def k8 : Class := { plain "java/util/List" (some 0) with
  accessFlags := 1537
  interfaces := #[7]
  cf := some (fileOf pool8 8 #[] #[⟨1025, 79, 80, #[]⟩, ⟨9, 88, 119, #[]⟩, ⟨137, 88, 108, #[]⟩, ⟨9, 234, 115, #[]⟩] 1537 103 #[120] #[])
  fields := #[]
  methods := #[k8m0, k8m1, k8m2, k8m3]
  instanceTypes := #[]
  staticTypes := #[]
  resolved := Array.replicate 251 none
  statics := none }

def pool9 : Array CpInfo := pool [(1, .methodref 2 3), (0, .class_ 4), (0, .nameAndType 5 6), (0, u "java/util/AbstractCollection"), (0, u "<init>"), (0, u "()V"), (0, .fieldref 8 9), (0, .class_ 10), (0, .nameAndType 11 12), (0, u "java/util/AbstractList"), (0, u "modCount"), (0, u "I"), (64, .class_ 78), (0, u "java/util/AbstractList$Itr"), (3, .class_ 83), (0, u "java/util/AbstractList$ListItr"), (9, .class_ 94), (0, u "java/util/AbstractList$RandomAccessSubList"), (3, .class_ 99), (0, u "java/util/AbstractList$SubList"), (33, .class_ 134), (0, u "java/util/List"), (73, .class_ 209), (0, u "java/util/AbstractList$SubList$1"), (0, .class_ 211), (0, u "java/util/AbstractList$RandomAccessSpliterator")] 6

def k9c0 : Code := { maxStack := 2, maxLocals := 1, code := jdk_39_method_1_code, exceptionTable := #[], attributes := #[] }
def k9m0 : Method := ⟨"<init>", "()V", ⟨[], none⟩, 4, some k9c0⟩
def k9 : Class := { plain "java/util/AbstractList" (some 6) with
  accessFlags := 1057
  interfaces := #[8]
  cf := some (fileOf pool9 8 #[.nestMembers #[93, 98, 208, 210, 82, 77]] #[⟨4, 5, 6, #[]⟩] 1057 2 #[133] #[⟨132, 11, 12, #[]⟩])
  fields := #[⟨"modCount", .int, 132, 0, 0⟩]
  methods := #[k9m0]
  instanceTypes := #[.int]
  staticTypes := #[]
  resolved := Array.replicate 218 none
  statics := none }

def pool10 : Array CpInfo := pool [(1, .class_ 2), (0, u "java/util/RandomAccess"), (0, .class_ 4), (0, u "java/lang/Object")] 2

def k10 : Class := { plain "java/util/RandomAccess" (some 0) with
  accessFlags := 1537
  interfaces := #[]
  cf := some (fileOf pool10 1 #[] #[] 1537 3 #[] #[])
  fields := #[]
  methods := #[]
  instanceTypes := #[]
  staticTypes := #[]
  resolved := Array.replicate 7 none
  statics := none }

def pool11 : Array CpInfo := pool [(1, .class_ 2), (0, u "java/lang/Cloneable"), (0, .class_ 4), (0, u "java/lang/Object")] 2

def k11 : Class := { plain "java/lang/Cloneable" (some 0) with
  accessFlags := 1537
  interfaces := #[]
  cf := some (fileOf pool11 1 #[] #[] 1537 3 #[] #[])
  fields := #[]
  methods := #[]
  instanceTypes := #[]
  staticTypes := #[]
  resolved := Array.replicate 7 none
  statics := none }

def pool12 : Array CpInfo := pool [(1, .class_ 2), (0, u "java/io/Serializable"), (0, .class_ 4), (0, u "java/lang/Object")] 2

def k12 : Class := { plain "java/io/Serializable" (some 0) with
  accessFlags := 1537
  interfaces := #[]
  cf := some (fileOf pool12 1 #[] #[] 1537 3 #[] #[])
  fields := #[]
  methods := #[]
  instanceTypes := #[]
  staticTypes := #[]
  resolved := Array.replicate 7 none
  statics := none }

def pool13 : Array CpInfo := pool [(1, .methodref 2 3), (0, .class_ 4), (0, .nameAndType 5 6), (0, u "java/util/AbstractList"), (0, u "<init>"), (0, u "()V"), (0, .class_ 8), (0, u "java/lang/Object"), (0, .fieldref 10 11), (0, .class_ 12), (0, .nameAndType 13 14), (0, u "java/util/ArrayList"), (0, u "elementData"), (0, u "[Ljava/lang/Object;"), (2, u "EMPTY_ELEMENTDATA"), (21, .fieldref 10 40), (0, .nameAndType 41 14), (0, u "DEFAULTCAPACITY_EMPTY_ELEMENTDATA"), (4, u "toArray"), (0, u "()[Ljava/lang/Object;"), (0, .fieldref 10 49), (0, .nameAndType 50 51), (0, u "size"), (0, u "I"), (6, .class_ 60), (1, u "java/util/Arrays"), (0, u "copyOf"), (1, .fieldref 10 64), (0, .nameAndType 65 51), (0, u "modCount"), (0, .methodref 58 67), (0, .nameAndType 61 68), (0, u "([Ljava/lang/Object;I)[Ljava/lang/Object;"), (0, .methodref 10 70), (0, .nameAndType 71 72), (0, u "grow"), (0, u "(I)[Ljava/lang/Object;"), (0, .methodref 74 75), (0, .class_ 76), (0, .nameAndType 77 78), (0, u "jdk/internal/util/ArraysSupport"), (0, u "newLength"), (0, u "(III)I"), (0, .methodref 80 81), (0, .class_ 82), (0, .nameAndType 83 84), (0, u "java/lang/Math"), (0, u "max"), (0, u "(II)I"), (11, u "(Ljava/lang/Object;)Z"), (32, .methodref 10 130), (0, .nameAndType 71 47), (0, .methodref 10 132), (0, .nameAndType 133 134), (0, u "add"), (0, u "(Ljava/lang/Object;[Ljava/lang/Object;I)V"), (13, .class_ 149), (0, u "java/util/List"), (23, u "()Z"), (88, .class_ 263), (0, u "java/util/ArrayList$ListItr"), (3, .class_ 268), (0, u "java/util/ArrayList$Itr"), (7, .class_ 277), (0, u "java/util/ArrayList$SubList"), (12, .class_ 291), (0, u "java/util/ArrayList$ArrayListSpliterator"), (37, .class_ 330), (0, u "java/util/RandomAccess"), (0, .class_ 332), (0, u "java/lang/Cloneable"), (0, .class_ 334), (0, u "java/io/Serializable"), (0, u "serialVersionUID"), (0, u "J"), (3, u "DEFAULT_CAPACITY"), (22, u "isEmpty"), (136, .class_ 501), (0, u "java/util/ArrayList$SubList$2"), (0, .class_ 503), (0, u "java/util/ArrayList$SubList$1")] 5

def k13c0 : Code := { maxStack := 2, maxLocals := 1, code := jdk_38_method_2_code, exceptionTable := #[], attributes := #[] }
def k13m0 : Method := ⟨"<init>", "()V", ⟨[], none⟩, 1, some k13c0⟩
def k13c1 : Code := { maxStack := 4, maxLocals := 4, code := jdk_38_method_6_code, exceptionTable := #[], attributes := #[] }
def k13m1 : Method := ⟨"grow", "(I)[Ljava/lang/Object;", ⟨[.int], some (.array (.object "java/lang/Object"))⟩, 2, some k13c1⟩
def k13c2 : Code := { maxStack := 3, maxLocals := 1, code := jdk_38_method_7_code, exceptionTable := #[], attributes := #[] }
def k13m2 : Method := ⟨"grow", "()[Ljava/lang/Object;", ⟨[], some (.array (.object "java/lang/Object"))⟩, 2, some k13c2⟩
def k13c3 : Code := { maxStack := 1, maxLocals := 1, code := jdk_38_method_9_code, exceptionTable := #[], attributes := #[] }
def k13m3 : Method := ⟨"isEmpty", "()Z", ⟨[], some .boolean⟩, 1, some k13c3⟩
def k13c4 : Code := { maxStack := 2, maxLocals := 1, code := jdk_38_method_16_code, exceptionTable := #[], attributes := #[] }
def k13m4 : Method := ⟨"toArray", "()[Ljava/lang/Object;", ⟨[], some (.array (.object "java/lang/Object"))⟩, 1, some k13c4⟩
def k13c5 : Code := { maxStack := 3, maxLocals := 4, code := jdk_38_method_24_code, exceptionTable := #[], attributes := #[] }
def k13m5 : Method := ⟨"add", "(Ljava/lang/Object;[Ljava/lang/Object;I)V", ⟨[(.object "java/lang/Object"), (.array (.object "java/lang/Object")), .int], none⟩, 2, some k13c5⟩
def k13c6 : Code := { maxStack := 4, maxLocals := 2, code := jdk_38_method_25_code, exceptionTable := #[], attributes := #[] }
def k13m6 : Method := ⟨"add", "(Ljava/lang/Object;)Z", ⟨[(.object "java/lang/Object")], some .boolean⟩, 1, some k13c6⟩
def k13 : Class := { plain "java/util/ArrayList" (some 9) with
  accessFlags := 33
  interfaces := #[8, 10, 11, 12]
  cf := some (fileOf pool13 10 #[.nestMembers #[290, 276, 500, 502, 262, 267]] #[⟨1, 5, 6, #[]⟩, ⟨2, 71, 72, #[]⟩, ⟨2, 71, 47, #[]⟩, ⟨1, 363, 173, #[]⟩, ⟨1, 46, 47, #[]⟩, ⟨2, 133, 134, #[]⟩, ⟨1, 133, 96, #[]⟩] 33 2 #[148, 329, 331, 333] #[⟨26, 335, 336, #[]⟩, ⟨26, 340, 51, #[]⟩, ⟨26, 17, 14, #[]⟩, ⟨26, 41, 14, #[]⟩, ⟨128, 13, 14, #[]⟩, ⟨2, 50, 51, #[]⟩])
  fields := #[⟨"serialVersionUID", .long, 26, 0, 0⟩, ⟨"DEFAULT_CAPACITY", .int, 26, 1, 0⟩, ⟨"EMPTY_ELEMENTDATA", (.array (.object "java/lang/Object")), 26, 2, 0⟩, ⟨"DEFAULTCAPACITY_EMPTY_ELEMENTDATA", (.array (.object "java/lang/Object")), 26, 3, 0⟩, ⟨"elementData", (.array (.object "java/lang/Object")), 128, 1, 0⟩, ⟨"size", .int, 2, 2, 0⟩]
  methods := #[k13m0, k13m1, k13m2, k13m3, k13m4, k13m5, k13m6]
  instanceTypes := #[.int, (.array (.object "java/lang/Object")), .int]
  staticTypes := #[.long, .int, (.array (.object "java/lang/Object")), (.array (.object "java/lang/Object"))]
  resolved := Array.replicate 509 none
  statics := some 0 }

def pool14 : Array CpInfo := pool [(2, .class_ 4), (1, u "java/lang/Object"), (0, u "<init>"), (0, u "()V"), (3, .class_ 11), (0, u "java/util/ImmutableCollections$List12"), (0, .class_ 13), (0, u "java/util/ImmutableCollections$ListN"), (3, u "Z"), (0, .class_ 19), (0, u "java/util/List"), (0, .interfaceMethodref 21 22), (0, .class_ 23), (0, .nameAndType 24 25), (0, u "java/util/Collection"), (0, u "isEmpty"), (0, u "()Z"), (0, .interfaceMethodref 18 27), (0, .nameAndType 28 29), (0, u "of"), (0, u "()Ljava/util/List;"), (0, .interfaceMethodref 21 31), (0, .nameAndType 32 33), (0, u "toArray"), (0, u "()[Ljava/lang/Object;"), (0, .interfaceMethodref 18 35), (0, .nameAndType 28 36), (0, u "([Ljava/lang/Object;)Ljava/util/List;"), (0, .methodref 38 39), (0, .class_ 40), (0, .nameAndType 41 42), (0, u "java/util/Objects"), (0, u "requireNonNull"), (0, u "(Ljava/lang/Object;)Ljava/lang/Object;"), (0, .methodref 12 44), (0, .nameAndType 5 45), (0, u "([Ljava/lang/Object;Z)V"), (1, .class_ 49), (1, u "java/util/ImmutableCollections"), (0, u "$assertionsDisabled"), (5, u "[Ljava/lang/Object;"), (5, u "EMPTY_LIST"), (0, u "Ljava/util/ImmutableCollections$ListN;"), (8, u "EMPTY_LIST_NULLS"), (22, u "SALT32L"), (0, u "J"), (2, u "REVERSE"), (6, u "archivedObjects"), (2, u "EMPTY"), (0, u "Ljava/lang/Object;"), (0, .class_ 112), (0, u "java/util/ImmutableCollections$SetN"), (5, u "EMPTY_SET"), (0, u "Ljava/util/ImmutableCollections$SetN;"), (0, .class_ 121), (0, u "java/util/ImmutableCollections$MapN"), (3, u "EMPTY_MAP"), (0, u "Ljava/util/ImmutableCollections$MapN;"), (4, u "EXPAND_FACTOR"), (0, u "I"), (9, u "listCopy"), (0, u "(Ljava/util/Collection;)Ljava/util/List;"), (7, u "listFromArray"), (17, .class_ 170), (0, u "java/util/ImmutableCollections$MapN$MapNIterator"), (0, .class_ 172), (0, u "java/util/ImmutableCollections$MapN$1"), (0, .class_ 174), (0, u "java/util/ImmutableCollections$Map1"), (0, .class_ 176), (0, u "java/util/ImmutableCollections$AbstractImmutableMap"), (0, .class_ 178), (0, u "java/util/ImmutableCollections$SetN$SetNIterator"), (0, .class_ 180), (0, u "java/util/ImmutableCollections$Set12"), (0, .class_ 182), (0, u "java/util/ImmutableCollections$Set12$1"), (0, .class_ 184), (0, u "java/util/ImmutableCollections$AbstractImmutableSet"), (0, .class_ 186), (0, u "java/util/ImmutableCollections$SubList"), (0, .class_ 188), (0, u "java/util/ImmutableCollections$ListItr"), (0, .class_ 190), (0, u "java/util/ImmutableCollections$AbstractImmutableList"), (0, .class_ 192), (0, u "java/util/ImmutableCollections$AbstractImmutableCollection"), (0, .class_ 194), (0, u "java/util/ImmutableCollections$Access"), (0, .class_ 196), (0, u "java/util/ImmutableCollections$Access$1")] 16

def k14m0 : Method := ⟨"<init>", "()V", ⟨[], none⟩, 2, none⟩
def k14c1 : Code := { maxStack := 1, maxLocals := 2, code := jdk_56_method_3_code, exceptionTable := #[], attributes := #[] }
def k14m1 : Method := ⟨"listCopy", "(Ljava/util/Collection;)Ljava/util/List;", ⟨[(.object "java/util/Collection")], some (.object "java/util/List")⟩, 8, some k14c1⟩
def k14c2 : Code := { maxStack := 4, maxLocals := 3, code := jdk_56_method_4_code, exceptionTable := #[], attributes := #[] }
def k14m2 : Method := ⟨"listFromArray", "([Ljava/lang/Object;)Ljava/util/List;", ⟨[(.array (.object "java/lang/Object"))], some (.object "java/util/List")⟩, 136, some k14c2⟩
def k14 : Class := { plain "java/util/ImmutableCollections" (some 0) with
  accessFlags := 32
  interfaces := #[]
  cf := some (fileOf pool14 47 #[.nestMembers #[120, 169, 171, 173, 175, 111, 177, 179, 181, 183, 12, 10, 185, 187, 189, 191, 193, 195]] #[⟨2, 5, 6, #[]⟩, ⟨8, 142, 143, #[]⟩, ⟨136, 151, 36, #[]⟩] 32 2 #[] #[⟨26, 95, 96, #[]⟩, ⟨26, 99, 17, #[]⟩, ⟨10, 106, 56, #[]⟩, ⟨26, 109, 110, #[]⟩, ⟨24, 62, 63, #[]⟩, ⟨24, 72, 63, #[]⟩, ⟨24, 118, 119, #[]⟩, ⟨24, 125, 126, #[]⟩, ⟨24, 131, 132, #[]⟩, ⟨4120, 50, 17, #[]⟩])
  fields := #[⟨"SALT32L", .long, 26, 0, 0⟩, ⟨"REVERSE", .boolean, 26, 1, 0⟩, ⟨"archivedObjects", (.array (.object "java/lang/Object")), 10, 2, 0⟩, ⟨"EMPTY", (.object "java/lang/Object"), 26, 3, 0⟩, ⟨"EMPTY_LIST", (.object "java/util/ImmutableCollections$ListN"), 24, 4, 0⟩, ⟨"EMPTY_LIST_NULLS", (.object "java/util/ImmutableCollections$ListN"), 24, 5, 0⟩, ⟨"EMPTY_SET", (.object "java/util/ImmutableCollections$SetN"), 24, 6, 0⟩, ⟨"EMPTY_MAP", (.object "java/util/ImmutableCollections$MapN"), 24, 7, 0⟩, ⟨"EXPAND_FACTOR", .int, 24, 8, 0⟩, ⟨"$assertionsDisabled", .boolean, 4120, 9, 0⟩]
  methods := #[k14m0, k14m1, k14m2]
  instanceTypes := #[]
  staticTypes := #[.long, .boolean, (.array (.object "java/lang/Object")), (.object "java/lang/Object"), (.object "java/util/ImmutableCollections$ListN"), (.object "java/util/ImmutableCollections$ListN"), (.object "java/util/ImmutableCollections$SetN"), (.object "java/util/ImmutableCollections$MapN"), .int, .boolean]
  resolved := Array.replicate 213 none
  statics := some 1 }

def pool15 : Array CpInfo := pool [(1, .methodref 2 3), (0, .class_ 4), (0, .nameAndType 5 6), (0, u "java/util/AbstractCollection"), (0, u "<init>"), (0, u "()V"), (1, .class_ 10), (1, u "java/util/ImmutableCollections"), (2, .class_ 14), (0, u "java/util/ImmutableCollections$AbstractImmutableCollection")] 41

def k15c0 : Code := { maxStack := 1, maxLocals := 1, code := jdk_47_method_1_code, exceptionTable := #[], attributes := #[] }
def k15m0 : Method := ⟨"<init>", "()V", ⟨[], none⟩, 0, some k15c0⟩
def k15 : Class := { plain "java/util/ImmutableCollections$AbstractImmutableCollection" (some 6) with
  accessFlags := 1056
  interfaces := #[]
  cf := some (fileOf pool15 13 #[.nestHost 8] #[⟨0, 5, 6, #[]⟩] 1056 2 #[] #[])
  fields := #[]
  methods := #[k15m0]
  instanceTypes := #[]
  staticTypes := #[]
  resolved := Array.replicate 56 none
  statics := none }

def pool16 : Array CpInfo := pool [(1, .methodref 2 3), (0, .class_ 4), (0, .nameAndType 5 6), (0, u "java/util/ImmutableCollections$AbstractImmutableCollection"), (0, u "<init>"), (0, u "()V"), (1, .class_ 10), (1, u "java/util/ImmutableCollections"), (3, .class_ 16), (1, u "java/util/ImmutableCollections$AbstractImmutableList"), (60, .class_ 78), (0, u "java/util/List"), (45, .class_ 125), (0, u "java/util/RandomAccess")] 70

def k16c0 : Code := { maxStack := 1, maxLocals := 1, code := jdk_46_method_1_code, exceptionTable := #[], attributes := #[] }
def k16m0 : Method := ⟨"<init>", "()V", ⟨[], none⟩, 0, some k16c0⟩
def k16 : Class := { plain "java/util/ImmutableCollections$AbstractImmutableList" (some 15) with
  accessFlags := 1056
  interfaces := #[8, 10]
  cf := some (fileOf pool16 14 #[.nestHost 8] #[⟨0, 5, 6, #[]⟩] 1056 2 #[77, 124] #[])
  fields := #[]
  methods := #[k16m0]
  instanceTypes := #[]
  staticTypes := #[]
  resolved := Array.replicate 196 none
  statics := none }

def pool17 : Array CpInfo := pool [(1, .methodref 2 3), (0, .class_ 4), (0, .nameAndType 5 6), (0, u "java/util/ImmutableCollections$AbstractImmutableList"), (0, u "<init>"), (0, u "()V"), (0, .methodref 8 9), (0, .class_ 10), (0, .nameAndType 11 12), (0, u "java/util/Objects"), (0, u "requireNonNull"), (0, u "(Ljava/lang/Object;)Ljava/lang/Object;"), (0, .fieldref 14 15), (0, .class_ 16), (0, .nameAndType 17 18), (0, u "java/util/ImmutableCollections$List12"), (0, u "e0"), (0, u "Ljava/lang/Object;"), (0, .fieldref 20 21), (0, .class_ 22), (0, .nameAndType 23 18), (0, u "java/util/ImmutableCollections"), (0, u "EMPTY"), (0, .fieldref 14 25), (0, .nameAndType 26 18), (0, u "e1"), (24, u "size"), (0, u "()I"), (17, .class_ 71), (0, u "java/io/Serializable"), (4, u "(Ljava/lang/Object;)V"), (8, u "(Ljava/lang/Object;Ljava/lang/Object;)V")] 39

def k17c0 : Code := { maxStack := 2, maxLocals := 2, code := jdk_44_method_1_code, exceptionTable := #[], attributes := #[] }
def k17m0 : Method := ⟨"<init>", "(Ljava/lang/Object;)V", ⟨[(.object "java/lang/Object")], none⟩, 0, some k17c0⟩
def k17c1 : Code := { maxStack := 2, maxLocals := 3, code := jdk_44_method_2_code, exceptionTable := #[], attributes := #[] }
def k17m1 : Method := ⟨"<init>", "(Ljava/lang/Object;Ljava/lang/Object;)V", ⟨[(.object "java/lang/Object"), (.object "java/lang/Object")], none⟩, 0, some k17c1⟩
def k17c2 : Code := { maxStack := 2, maxLocals := 1, code := jdk_44_method_3_code, exceptionTable := #[], attributes := #[] }
def k17m2 : Method := ⟨"size", "()I", ⟨[], some .int⟩, 1, some k17c2⟩
def k17 : Class := { plain "java/util/ImmutableCollections$List12" (some 16) with
  accessFlags := 48
  interfaces := #[12]
  cf := some (fileOf pool17 14 #[.nestHost 20] #[⟨0, 5, 76, #[]⟩, ⟨0, 5, 85, #[]⟩, ⟨1, 51, 52, #[]⟩] 48 2 #[70] #[⟨18, 17, 18, #[]⟩, ⟨18, 26, 18, #[]⟩])
  fields := #[⟨"e0", (.object "java/lang/Object"), 18, 0, 0⟩, ⟨"e1", (.object "java/lang/Object"), 18, 1, 0⟩]
  methods := #[k17m0, k17m1, k17m2]
  instanceTypes := #[(.object "java/lang/Object"), (.object "java/lang/Object")]
  staticTypes := #[]
  resolved := Array.replicate 125 none
  statics := none }

def pool18 : Array CpInfo := pool [(1, .methodref 2 3), (0, .class_ 4), (0, .nameAndType 5 6), (0, u "java/util/ImmutableCollections$AbstractImmutableList"), (0, u "<init>"), (0, u "()V"), (0, .fieldref 8 9), (0, .class_ 10), (0, .nameAndType 11 12), (0, u "java/util/ImmutableCollections$ListN"), (0, u "elements"), (0, u "[Ljava/lang/Object;"), (0, .fieldref 8 14), (0, .nameAndType 15 16), (0, u "allowNulls"), (0, u "Z"), (42, .class_ 60), (0, u "java/io/Serializable"), (4, u "([Ljava/lang/Object;Z)V"), (11, u "size"), (0, u "()I"), (35, .class_ 115), (0, u "java/util/ImmutableCollections")] 3

def k18c0 : Code := { maxStack := 2, maxLocals := 3, code := jdk_45_method_1_code, exceptionTable := #[], attributes := #[] }
def k18m0 : Method := ⟨"<init>", "([Ljava/lang/Object;Z)V", ⟨[(.array (.object "java/lang/Object")), .boolean], none⟩, 2, some k18c0⟩
def k18c1 : Code := { maxStack := 1, maxLocals := 1, code := jdk_45_method_3_code, exceptionTable := #[], attributes := #[] }
def k18m1 : Method := ⟨"size", "()I", ⟨[], some .int⟩, 1, some k18c1⟩
def k18 : Class := { plain "java/util/ImmutableCollections$ListN" (some 16) with
  accessFlags := 48
  interfaces := #[12]
  cf := some (fileOf pool18 8 #[.nestHost 114] #[⟨2, 5, 65, #[]⟩, ⟨1, 77, 78, #[]⟩] 48 2 #[59] #[⟨18, 11, 12, #[]⟩, ⟨18, 15, 16, #[]⟩])
  fields := #[⟨"elements", (.array (.object "java/lang/Object")), 18, 0, 0⟩, ⟨"allowNulls", .boolean, 18, 1, 0⟩]
  methods := #[k18m0, k18m1]
  instanceTypes := #[(.array (.object "java/lang/Object")), .boolean]
  staticTypes := #[]
  resolved := Array.replicate 119 none
  statics := none }

def pool19 : Array CpInfo := pool [(1, .class_ 2), (0, u "java/lang/Math"), (1, .class_ 6), (1, u "java/lang/Object"), (0, u "<init>"), (0, u "()V"), (89, .class_ 100), (1, u "java/lang/Math$RandomNumberGeneratorHolder"), (71, u "negativeZeroFloatBits"), (0, u "J"), (2, u "negativeZeroDoubleBits"), (21, u "max"), (2, u "min"), (43, u "$assertionsDisabled"), (0, u "Z"), (88, u "(II)I"), (2, u "twoToTheDoubleScaleDown"), (0, u "D"), (4, u "twoToTheDoubleScaleUp"), (9, u "E"), (3, u "PI"), (2, u "TAU"), (2, u "DEGREES_TO_RADIANS"), (0, u "RADIANS_TO_DEGREES")] 94

def k19m0 : Method := ⟨"<init>", "()V", ⟨[], none⟩, 2, none⟩
def k19c1 : Code := { maxStack := 2, maxLocals := 2, code := jdk_29_method_65_code, exceptionTable := #[], attributes := #[] }
def k19m1 : Method := ⟨"max", "(II)I", ⟨[.int, .int], some .int⟩, 9, some k19c1⟩
def k19c2 : Code := { maxStack := 2, maxLocals := 2, code := jdk_29_method_69_code, exceptionTable := #[], attributes := #[] }
def k19m2 : Method := ⟨"min", "(II)I", ⟨[.int, .int], some .int⟩, 9, some k19c2⟩
def k19 : Class := { plain "java/lang/Math" (some 0) with
  accessFlags := 49
  interfaces := #[]
  cf := some (fileOf pool19 1 #[.nestMembers #[98]] #[⟨2, 7, 8, #[]⟩, ⟨9, 198, 335, #[]⟩, ⟨9, 201, 335, #[]⟩] 49 4 #[] #[⟨25, 354, 339, #[]⟩, ⟨25, 358, 339, #[]⟩, ⟨25, 361, 339, #[]⟩, ⟨26, 364, 339, #[]⟩, ⟨26, 365, 339, #[]⟩, ⟨26, 172, 173, #[]⟩, ⟨26, 176, 173, #[]⟩, ⟨8, 344, 339, #[]⟩, ⟨8, 338, 339, #[]⟩, ⟨4120, 245, 246, #[]⟩])
  fields := #[⟨"E", .double, 25, 0, 0⟩, ⟨"PI", .double, 25, 1, 0⟩, ⟨"TAU", .double, 25, 2, 0⟩, ⟨"DEGREES_TO_RADIANS", .double, 26, 3, 0⟩, ⟨"RADIANS_TO_DEGREES", .double, 26, 4, 0⟩, ⟨"negativeZeroFloatBits", .long, 26, 5, 0⟩, ⟨"negativeZeroDoubleBits", .long, 26, 6, 0⟩, ⟨"twoToTheDoubleScaleUp", .double, 8, 7, 0⟩, ⟨"twoToTheDoubleScaleDown", .double, 8, 8, 0⟩, ⟨"$assertionsDisabled", .boolean, 4120, 9, 0⟩]
  methods := #[k19m0, k19m1, k19m2]
  instanceTypes := #[]
  staticTypes := #[.double, .double, .double, .double, .double, .long, .long, .double, .double, .boolean]
  resolved := Array.replicate 460 none
  statics := none }

def pool20 : Array CpInfo := pool [(1, .class_ 2), (0, u "java/lang/Appendable"), (0, .class_ 4), (0, u "java/lang/Object")] 9

def k20 : Class := { plain "java/lang/Appendable" (some 0) with
  accessFlags := 1537
  interfaces := #[]
  cf := some (fileOf pool20 1 #[] #[] 1537 3 #[] #[])
  fields := #[]
  methods := #[]
  instanceTypes := #[]
  staticTypes := #[]
  resolved := Array.replicate 14 none
  statics := none }

def pool21 : Array CpInfo := pool [(2, .class_ 4), (1, u "java/lang/CharSequence"), (42, .class_ 48), (0, u "java/lang/CharSequence$1CodePointIterator"), (10, .class_ 60), (0, u "java/lang/CharSequence$1CharIterator"), (5, .class_ 67), (0, u "java/lang/Object")] 63

def k21 : Class := { plain "java/lang/CharSequence" (some 0) with
  accessFlags := 1537
  interfaces := #[]
  cf := some (fileOf pool21 2 #[.nestMembers #[47, 59]] #[] 1537 66 #[] #[])
  fields := #[]
  methods := #[]
  instanceTypes := #[]
  staticTypes := #[]
  resolved := Array.replicate 131 none
  statics := none }

def pool22 : Array CpInfo := pool [(1, .class_ 2), (0, u "java/lang/String"), (0, .methodref 4 5), (0, .class_ 6), (0, .nameAndType 7 8), (0, u "java/lang/Object"), (0, u "<init>"), (0, u "()V"), (1, .class_ 12), (1, u "java/lang/AbstractStringBuilder"), (0, u "EMPTYVALUE"), (0, u "[B"), (0, .fieldref 10 16), (0, .nameAndType 17 14), (0, u "value"), (0, .fieldref 1 19), (0, .nameAndType 20 21), (0, u "COMPACT_STRINGS"), (0, u "Z"), (0, .fieldref 10 23), (0, .nameAndType 24 25), (0, u "coder"), (0, u "B"), (6, .methodref 1 33), (0, .nameAndType 34 35), (0, u "length"), (0, u "()I"), (0, .class_ 37), (0, u "java/lang/Integer"), (1, .integer 2147483647), (0, .methodref 1 41), (0, .nameAndType 24 42), (0, u "()B"), (2, u "append"), (0, u "(Ljava/lang/String;)Ljava/lang/AbstractStringBuilder;"), (1, .class_ 49), (0, u "java/lang/CharSequence"), (19, u "(Ljava/lang/String;)V"), (5, u "maybeLatin1"), (3, .fieldref 10 80), (0, .nameAndType 81 82), (0, u "count"), (0, u "I"), (0, .methodref 10 84), (0, .nameAndType 85 86), (0, u "isLatin1"), (0, u "()Z"), (13, .methodref 10 101), (0, .nameAndType 102 103), (0, u "ensureCapacityInternal"), (0, u "(I)V"), (0, .methodref 10 105), (0, .nameAndType 106 107), (0, u "newCapacity"), (0, u "(I)I"), (0, .methodref 109 110), (0, .class_ 111), (0, .nameAndType 112 113), (0, u "java/util/Arrays"), (0, u "copyOf"), (0, u "([BI)[B"), (0, .methodref 115 116), (0, .class_ 117), (0, .nameAndType 118 119), (0, u "jdk/internal/util/ArraysSupport"), (0, u "newLength"), (0, u "(III)I"), (68, u "getChars"), (19, .methodref 10 209), (0, .nameAndType 210 211), (0, u "putStringAt"), (0, u "(ILjava/lang/String;)V"), (5, u "inflateIfNeededFor"), (2, .nameAndType 221 222), (0, u "getBytes"), (0, u "([BIB)V"), (22, .methodref 36 246), (0, .nameAndType 247 107), (0, u "stringSize"), (0, .methodref 36 249), (0, .nameAndType 188 250), (0, u "(II[B)I"), (146, .methodref 10 398), (0, .nameAndType 217 69), (0, .methodref 1 220), (3, u "()[B"), (40, .class_ 445), (0, u "java/lang/Appendable"), (65, u "(I)Ljava/lang/AbstractStringBuilder;"), (40, u "getValue")] 56

def k22m0 : Method := ⟨"<init>", "()V", ⟨[], none⟩, 0, none⟩
def k22c1 : Code := { maxStack := 2, maxLocals := 2, code := jdk_68_method_2_code, exceptionTable := #[], attributes := #[] }
def k22m1 : Method := ⟨"<init>", "(I)V", ⟨[.int], none⟩, 0, some k22c1⟩
def k22c2 : Code := { maxStack := 1, maxLocals := 1, code := jdk_68_method_6_code, exceptionTable := #[], attributes := #[] }
def k22m2 : Method := ⟨"length", "()I", ⟨[], some .int⟩, 1, some k22c2⟩
def k22c3 : Code := { maxStack := 4, maxLocals := 3, code := jdk_68_method_9_code, exceptionTable := #[], attributes := #[] }
def k22m3 : Method := ⟨"ensureCapacityInternal", "(I)V", ⟨[.int], none⟩, 2, some k22c3⟩
def k22c4 : Code := { maxStack := 5, maxLocals := 6, code := jdk_68_method_10_code, exceptionTable := #[], attributes := #[] }
def k22m4 : Method := ⟨"newCapacity", "(I)I", ⟨[.int], some .int⟩, 2, some k22c4⟩
def k22c5 : Code := { maxStack := 3, maxLocals := 3, code := jdk_68_method_22_code, exceptionTable := #[], attributes := #[] }
def k22m5 : Method := ⟨"append", "(Ljava/lang/String;)Ljava/lang/AbstractStringBuilder;", ⟨[(.object "java/lang/String")], some (.object "java/lang/AbstractStringBuilder")⟩, 1, some k22c5⟩
def k22c6 : Code := { maxStack := 4, maxLocals := 4, code := jdk_68_method_32_code, exceptionTable := #[], attributes := #[] }
def k22m6 : Method := ⟨"append", "(I)Ljava/lang/AbstractStringBuilder;", ⟨[.int], some (.object "java/lang/AbstractStringBuilder")⟩, 1, some k22c6⟩
def k22c7 : Code := { maxStack := 1, maxLocals := 1, code := jdk_68_method_64_code, exceptionTable := #[], attributes := #[] }
def k22m7 : Method := ⟨"getValue", "()[B", ⟨[], some (.array .byte)⟩, 16, some k22c7⟩
def k22c8 : Code := { maxStack := 1, maxLocals := 1, code := jdk_68_method_68_code, exceptionTable := #[], attributes := #[] }
def k22m8 : Method := ⟨"isLatin1", "()Z", ⟨[], some .boolean⟩, 16, some k22c8⟩
def k22c9 : Code := { maxStack := 2, maxLocals := 2, code := jdk_68_method_71_code, exceptionTable := #[], attributes := #[] }
def k22m9 : Method := ⟨"inflateIfNeededFor", "(Ljava/lang/String;)V", ⟨[(.object "java/lang/String")], none⟩, 2, some k22c9⟩
def k22c10 : Code := { maxStack := 4, maxLocals := 3, code := jdk_68_method_73_code, exceptionTable := #[], attributes := #[] }
def k22m10 : Method := ⟨"putStringAt", "(ILjava/lang/String;)V", ⟨[.int, (.object "java/lang/String")], none⟩, 2, some k22c10⟩
def k22 : Class := { plain "java/lang/AbstractStringBuilder" (some 0) with
  accessFlags := 1056
  interfaces := #[20, 21]
  cf := some (fileOf pool22 10 #[] #[⟨0, 7, 8, #[]⟩, ⟨0, 7, 103, #[]⟩, ⟨1, 34, 35, #[]⟩, ⟨2, 102, 103, #[]⟩, ⟨2, 106, 107, #[]⟩, ⟨1, 45, 46, #[]⟩, ⟨1, 45, 511, #[]⟩, ⟨16, 552, 403, #[]⟩, ⟨16, 85, 86, #[]⟩, ⟨2, 217, 69, #[]⟩, ⟨2, 210, 211, #[]⟩] 1056 4 #[444, 48] #[⟨0, 17, 14, #[]⟩, ⟨0, 24, 25, #[]⟩, ⟨0, 75, 21, #[]⟩, ⟨0, 81, 82, #[]⟩, ⟨26, 13, 14, #[]⟩])
  fields := #[⟨"value", (.array .byte), 0, 0, 0⟩, ⟨"coder", .byte, 0, 1, 0⟩, ⟨"maybeLatin1", .boolean, 0, 2, 0⟩, ⟨"count", .int, 0, 3, 0⟩, ⟨"EMPTYVALUE", (.array .byte), 26, 0, 0⟩]
  methods := #[k22m0, k22m1, k22m2, k22m3, k22m4, k22m5, k22m6, k22m7, k22m8, k22m9, k22m10]
  instanceTypes := #[(.array .byte), .byte, .boolean, .int]
  staticTypes := #[(.array .byte)]
  resolved := Array.replicate 609 none
  statics := none }

def pool23 : Array CpInfo := pool [(1, .class_ 2), (0, u "java/lang/Comparable"), (0, .class_ 4), (0, u "java/lang/Object")] 7

def k23 : Class := { plain "java/lang/Comparable" (some 0) with
  accessFlags := 1537
  interfaces := #[]
  cf := some (fileOf pool23 1 #[] #[] 1537 3 #[] #[])
  fields := #[]
  methods := #[]
  instanceTypes := #[]
  staticTypes := #[]
  resolved := Array.replicate 12 none
  statics := none }

def pool24 : Array CpInfo := pool [(1, .methodref 2 3), (0, .class_ 4), (0, .nameAndType 5 6), (0, u "java/lang/AbstractStringBuilder"), (0, u "<init>"), (0, u "(I)V"), (11, .class_ 20), (1, u "java/lang/String"), (3, .class_ 26), (1, u "java/lang/StringBuilder"), (0, u "append"), (0, u "(Ljava/lang/String;)Ljava/lang/StringBuilder;"), (0, .methodref 2 30), (0, .nameAndType 27 31), (0, u "(Ljava/lang/String;)Ljava/lang/AbstractStringBuilder;"), (21, .methodref 2 54), (0, .nameAndType 27 55), (0, u "(I)Ljava/lang/AbstractStringBuilder;"), (81, .methodref 18 138), (0, .nameAndType 5 139), (0, u "(Ljava/lang/StringBuilder;)V"), (5, u "()V"), (10, u "()I"), (111, u "(I)Ljava/lang/StringBuilder;"), (74, .methodref 2 344), (0, .nameAndType 345 156), (0, u "length"), (3, .class_ 350), (0, u "java/lang/Appendable"), (0, .class_ 352), (0, u "java/io/Serializable"), (0, .class_ 354), (0, u "java/lang/Comparable"), (0, .class_ 356), (0, u "java/lang/CharSequence"), (0, u "serialVersionUID"), (0, u "J"), (40, u "toString"), (0, u "()Ljava/lang/String;")] 21

def k24c0 : Code := { maxStack := 2, maxLocals := 1, code := jdk_67_method_1_code, exceptionTable := #[], attributes := #[] }
def k24m0 : Method := ⟨"<init>", "()V", ⟨[], none⟩, 1, some k24c0⟩
def k24c1 : Code := { maxStack := 2, maxLocals := 2, code := jdk_67_method_7_code, exceptionTable := #[], attributes := #[] }
def k24m1 : Method := ⟨"append", "(Ljava/lang/String;)Ljava/lang/StringBuilder;", ⟨[(.object "java/lang/String")], some (.object "java/lang/StringBuilder")⟩, 1, some k24c1⟩
def k24c2 : Code := { maxStack := 2, maxLocals := 2, code := jdk_67_method_15_code, exceptionTable := #[], attributes := #[] }
def k24m2 : Method := ⟨"append", "(I)Ljava/lang/StringBuilder;", ⟨[.int], some (.object "java/lang/StringBuilder")⟩, 1, some k24c2⟩
def k24c3 : Code := { maxStack := 3, maxLocals := 1, code := jdk_67_method_42_code, exceptionTable := #[], attributes := #[] }
def k24m3 : Method := ⟨"toString", "()Ljava/lang/String;", ⟨[], some (.object "java/lang/String")⟩, 1, some k24c3⟩
def k24c4 : Code := { maxStack := 1, maxLocals := 1, code := jdk_67_method_93_code, exceptionTable := #[], attributes := #[] }
def k24m4 : Method := ⟨"length", "()I", ⟨[], some .int⟩, 4161, some k24c4⟩
def k24 : Class := { plain "java/lang/StringBuilder" (some 22) with
  accessFlags := 49
  interfaces := #[20, 12, 23, 21]
  cf := some (fileOf pool24 24 #[] #[⟨1, 5, 145, #[]⟩, ⟨1, 27, 28, #[]⟩, ⟨1, 27, 268, #[]⟩, ⟨1, 399, 400, #[]⟩, ⟨4161, 345, 156, #[]⟩] 49 2 #[349, 351, 353, 355] #[⟨24, 357, 358, #[]⟩])
  fields := #[⟨"serialVersionUID", .long, 24, 0, 0⟩]
  methods := #[k24m0, k24m1, k24m2, k24m3, k24m4]
  instanceTypes := #[(.array .byte), .byte, .boolean, .int]
  staticTypes := #[.long]
  resolved := Array.replicate 422 none
  statics := none }

def pool25 : Array CpInfo := pool [(1, .class_ 2), (0, u "java/lang/constant/Constable"), (0, .class_ 4), (0, u "java/lang/Object")] 6

def k25 : Class := { plain "java/lang/constant/Constable" (some 0) with
  accessFlags := 1537
  interfaces := #[]
  cf := some (fileOf pool25 1 #[] #[] 1537 3 #[] #[])
  fields := #[]
  methods := #[]
  instanceTypes := #[]
  staticTypes := #[]
  resolved := Array.replicate 11 none
  statics := none }

def pool26 : Array CpInfo := pool [(1, .class_ 2), (0, u "java/lang/constant/ConstantDesc"), (0, .class_ 4), (0, u "java/lang/Object")] 32

def k26 : Class := { plain "java/lang/constant/ConstantDesc" (some 0) with
  accessFlags := 1537
  interfaces := #[]
  cf := some (fileOf pool26 1 #[] #[] 1537 3 #[] #[])
  fields := #[]
  methods := #[]
  instanceTypes := #[]
  staticTypes := #[]
  resolved := Array.replicate 37 none
  statics := none }

def pool27 : Array CpInfo := pool [(1, .methodref 2 3), (0, .class_ 4), (0, .nameAndType 5 6), (0, u "java/lang/Object"), (0, u "<init>"), (0, u "()V"), (2, .fieldref 10 11), (0, .class_ 12), (0, .nameAndType 13 14), (0, u "java/lang/String"), (0, u "value"), (0, u "[B"), (0, .fieldref 10 16), (0, .nameAndType 17 18), (0, u "coder"), (0, u "B"), (2, u "hash"), (0, u "I"), (2, u "hashIsZero"), (0, u "Z"), (0, .methodref 10 28), (0, .nameAndType 5 29), (0, u "([CIILjava/lang/Void;)V"), (8, .fieldref 10 39), (0, .nameAndType 40 26), (0, u "COMPACT_STRINGS"), (1, .class_ 44), (1, u "java/lang/StringUTF16"), (0, u "compress"), (1, .methodref 42 48), (0, .nameAndType 49 50), (0, u "coderFromArrayLen"), (0, u "([BI)B"), (3, .methodref 55 56), (0, .class_ 57), (0, .nameAndType 58 59), (0, u "java/util/Arrays"), (0, u "copyOfRange"), (0, u "([BII)[B"), (47, .class_ 109), (1, u "java/lang/StringLatin1"), (32, u "()Z"), (34, .methodref 42 178), (0, .nameAndType 45 179), (0, u "([CII)[B"), (13, .class_ 195), (1, u "java/lang/System"), (16, .methodref 193 213), (0, .nameAndType 214 215), (0, u "arraycopy"), (0, u "(Ljava/lang/Object;ILjava/lang/Object;II)V"), (118, u "()I"), (0, .methodref 10 336), (0, .nameAndType 17 337), (0, u "()B"), (2, u "()[B"), (148, .methodref 10 490), (0, .nameAndType 5 491), (0, u "(Ljava/lang/AbstractStringBuilder;Ljava/lang/Void;)V"), (1, .nameAndType 494 142), (0, u "isLatin1"), (11, .nameAndType 507 334), (0, u "length"), (24, u "getBytes"), (8, .methodref 107 542), (0, .nameAndType 543 544), (0, u "equals"), (0, u "([B[B)Z"), (4, .methodref 550 506), (0, .class_ 551), (0, u "java/lang/AbstractStringBuilder"), (0, .methodref 550 553), (0, .nameAndType 554 340), (0, u "getValue"), (18, u "(Ljava/lang/Object;)Z"), (1, .class_ 576), (0, u "java/lang/CharSequence"), (22, u "CASE_INSENSITIVE_ORDER"), (0, u "Ljava/util/Comparator;"), (220, u "([BIB)V"), (188, u "([C)V"), (36, .methodref 550 493), (53, u "serialPersistentFields"), (0, u "[Ljava/io/ObjectStreamField;"), (0, .class_ 1104), (0, u "java/lang/String$CaseInsensitiveComparator"), (1, .class_ 1107), (0, u "java/io/Serializable"), (0, .class_ 1109), (0, u "java/lang/Comparable"), (0, .class_ 1111), (0, u "java/lang/constant/Constable"), (0, .class_ 1113), (0, u "java/lang/constant/ConstantDesc"), (2, u "serialVersionUID"), (0, u "J"), (3, u "REPL"), (0, u "C"), (2, u "LATIN1"), (1, u "UTF16"), (105, u "(Ljava/lang/StringBuilder;)V")] 217

def k27m0 : Method := ⟨"<init>", "()V", ⟨[], none⟩, 1, none⟩
def k27c1 : Code := { maxStack := 5, maxLocals := 2, code := jdk_42_method_3_code, exceptionTable := #[], attributes := #[] }
def k27m1 : Method := ⟨"<init>", "([C)V", ⟨[(.array .char)], none⟩, 1, some k27c1⟩
def k27c2 : Code := { maxStack := 3, maxLocals := 2, code := jdk_42_method_53_code, exceptionTable := #[], attributes := #[] }
def k27m2 : Method := ⟨"<init>", "(Ljava/lang/StringBuilder;)V", ⟨[(.object "java/lang/StringBuilder")], none⟩, 1, some k27c2⟩
def k27c3 : Code := { maxStack := 2, maxLocals := 1, code := jdk_42_method_54_code, exceptionTable := #[], attributes := #[] }
def k27m3 : Method := ⟨"length", "()I", ⟨[], some .int⟩, 1, some k27c3⟩
def k27c4 : Code := { maxStack := 2, maxLocals := 3, code := jdk_42_method_66_code, exceptionTable := #[], attributes := #[] }
def k27m4 : Method := ⟨"equals", "(Ljava/lang/Object;)Z", ⟨[(.object "java/lang/Object")], some .boolean⟩, 1, some k27c4⟩
def k27c5 : Code := { maxStack := 5, maxLocals := 4, code := jdk_42_method_147_code, exceptionTable := #[], attributes := #[] }
def k27m5 : Method := ⟨"getBytes", "([BIB)V", ⟨[(.array .byte), .int, .byte], none⟩, 0, some k27c5⟩
def k27c6 : Code := { maxStack := 4, maxLocals := 6, code := jdk_42_method_149_code, exceptionTable := #[], attributes := #[] }
def k27m6 : Method := ⟨"<init>", "([CIILjava/lang/Void;)V", ⟨[(.array .char), .int, .int, (.object "java/lang/Void")], none⟩, 2, some k27c6⟩
def k27c7 : Code := { maxStack := 5, maxLocals := 5, code := jdk_42_method_150_code, exceptionTable := #[], attributes := #[] }
def k27m7 : Method := ⟨"<init>", "(Ljava/lang/AbstractStringBuilder;Ljava/lang/Void;)V", ⟨[(.object "java/lang/AbstractStringBuilder"), (.object "java/lang/Void")], none⟩, 0, some k27c7⟩
def k27c8 : Code := { maxStack := 1, maxLocals := 1, code := jdk_42_method_152_code, exceptionTable := #[], attributes := #[] }
def k27m8 : Method := ⟨"coder", "()B", ⟨[], some .byte⟩, 0, some k27c8⟩
def k27 : Class := { plain "java/lang/String" (some 0) with
  accessFlags := 49
  interfaces := #[12, 23, 21, 25, 26]
  cf := some (fileOf pool27 10 #[.nestMembers #[1103]] #[⟨1, 5, 6, #[]⟩, ⟨1, 5, 1010, #[]⟩, ⟨1, 5, 1233, #[]⟩, ⟨1, 507, 334, #[]⟩, ⟨1, 543, 573, #[]⟩, ⟨0, 532, 821, #[]⟩, ⟨2, 5, 29, #[]⟩, ⟨0, 5, 491, #[]⟩, ⟨0, 17, 337, #[]⟩] 49 2 #[1106, 1108, 575, 1110, 1112] #[⟨18, 13, 14, #[]⟩, ⟨18, 17, 18, #[]⟩, ⟨2, 21, 22, #[]⟩, ⟨2, 25, 26, #[]⟩, ⟨26, 1116, 1117, #[]⟩, ⟨24, 40, 26, #[]⟩, ⟨26, 1101, 1102, #[]⟩, ⟨26, 1121, 1122, #[]⟩, ⟨25, 599, 600, #[]⟩, ⟨24, 1125, 18, #[]⟩, ⟨24, 1127, 18, #[]⟩])
  fields := #[⟨"value", (.array .byte), 18, 0, 0⟩, ⟨"coder", .byte, 18, 1, 0⟩, ⟨"hash", .int, 2, 2, 0⟩, ⟨"hashIsZero", .boolean, 2, 3, 0⟩, ⟨"serialVersionUID", .long, 26, 0, 0⟩, ⟨"COMPACT_STRINGS", .boolean, 24, 1, 0⟩, ⟨"serialPersistentFields", (.array (.object "java/io/ObjectStreamField")), 26, 2, 0⟩, ⟨"REPL", .char, 26, 3, 0⟩, ⟨"CASE_INSENSITIVE_ORDER", (.object "java/util/Comparator"), 25, 4, 0⟩, ⟨"LATIN1", .byte, 24, 5, 0⟩, ⟨"UTF16", .byte, 24, 6, 0⟩]
  methods := #[k27m0, k27m1, k27m2, k27m3, k27m4, k27m5, k27m6, k27m7, k27m8]
  instanceTypes := #[(.array .byte), .byte, .int, .boolean]
  staticTypes := #[.long, .boolean, (.array (.object "java/io/ObjectStreamField")), .char, (.object "java/util/Comparator"), .byte, .byte]
  resolved := Array.replicate 1451 none
  statics := some 2 }

def pool28 : Array CpInfo := pool [(2, .class_ 4), (1, u "java/lang/Object"), (0, u "<init>"), (0, u "()V"), (1, .class_ 10), (1, u "java/lang/System"), (0, u "allowSecurityManager"), (0, u "I"), (16, u "cons"), (0, u "Ljava/io/Console;"), (77, .class_ 110), (1, u "java/lang/System$CallersHolder"), (43, u "initialErrStream"), (0, u "Ljava/io/PrintStream;"), (19, u "security"), (0, u "Ljava/lang/SecurityManager;"), (31, .class_ 209), (0, u "java/lang/System$1"), (7, u "props"), (0, u "Ljava/util/Properties;"), (2, u "lineSeparator"), (0, u "Ljava/lang/String;"), (96, .class_ 321), (1, u "java/lang/System$LoggerFinder"), (5, .class_ 328), (0, u "java/lang/System$Logger"), (67, u "err"), (2, u "out"), (91, u "notSupportedJnuEncoding"), (15, u "in"), (17, u "initialIn"), (0, u "Ljava/io/InputStream;"), (35, u "bootLayer"), (0, u "Ljava/lang/ModuleLayer;"), (99, .class_ 664), (0, u "java/lang/System$2"), (9, u "NEVER"), (2, u "MAYBE"), (49, u "arraycopy"), (0, u "(Ljava/lang/Object;ILjava/lang/Object;II)V"), (72, .class_ 802), (0, u "java/lang/System$Logger$Level")] 31

def k28m0 : Method := ⟨"<init>", "()V", ⟨[], none⟩, 2, none⟩
def k28m1 : Method := ⟨"arraycopy", "(Ljava/lang/Object;ILjava/lang/Object;II)V", ⟨[(.object "java/lang/Object"), .int, (.object "java/lang/Object"), .int, .int], none⟩, 265, none⟩
def k28 : Class := { plain "java/lang/System" (some 0) with
  accessFlags := 49
  interfaces := #[]
  cf := some (fileOf pool28 8 #[.nestMembers #[319, 327, 801, 108, 663, 208]] #[⟨2, 5, 6, #[]⟩, ⟨265, 727, 728, #[]⟩] 49 2 #[] #[⟨25, 507, 526, #[]⟩, ⟨25, 399, 155, #[]⟩, ⟨25, 396, 155, #[]⟩, ⟨10, 525, 526, #[]⟩, ⟨26, 674, 12, #[]⟩, ⟨26, 677, 12, #[]⟩, ⟨10, 11, 12, #[]⟩, ⟨74, 175, 176, #[]⟩, ⟨10, 491, 222, #[]⟩, ⟨74, 29, 30, #[]⟩, ⟨74, 154, 155, #[]⟩, ⟨10, 217, 218, #[]⟩, ⟨10, 221, 222, #[]⟩, ⟨8, 562, 563, #[]⟩])
  fields := #[⟨"in", (.object "java/io/InputStream"), 25, 0, 0⟩, ⟨"out", (.object "java/io/PrintStream"), 25, 1, 0⟩, ⟨"err", (.object "java/io/PrintStream"), 25, 2, 0⟩, ⟨"initialIn", (.object "java/io/InputStream"), 10, 3, 0⟩, ⟨"NEVER", .int, 26, 4, 0⟩, ⟨"MAYBE", .int, 26, 5, 0⟩, ⟨"allowSecurityManager", .int, 10, 6, 0⟩, ⟨"security", (.object "java/lang/SecurityManager"), 74, 7, 0⟩, ⟨"notSupportedJnuEncoding", (.object "java/lang/String"), 10, 8, 0⟩, ⟨"cons", (.object "java/io/Console"), 74, 9, 0⟩, ⟨"initialErrStream", (.object "java/io/PrintStream"), 74, 10, 0⟩, ⟨"props", (.object "java/util/Properties"), 10, 11, 0⟩, ⟨"lineSeparator", (.object "java/lang/String"), 10, 12, 0⟩, ⟨"bootLayer", (.object "java/lang/ModuleLayer"), 8, 13, 0⟩]
  methods := #[k28m0, k28m1]
  instanceTypes := #[]
  staticTypes := #[(.object "java/io/InputStream"), (.object "java/io/PrintStream"), (.object "java/io/PrintStream"), (.object "java/io/InputStream"), .int, .int, .int, (.object "java/lang/SecurityManager"), (.object "java/lang/String"), (.object "java/io/Console"), (.object "java/io/PrintStream"), (.object "java/util/Properties"), (.object "java/lang/String"), (.object "java/lang/ModuleLayer")]
  resolved := Array.replicate 834 none
  statics := none }

def pool29 : Array CpInfo := pool [(2, .class_ 4), (1, u "java/lang/Object"), (0, u "<init>"), (0, u "()V"), (1, .class_ 10), (1, u "java/lang/Number"), (2, .class_ 14), (0, u "java/io/Serializable"), (0, u "serialVersionUID"), (0, u "J")] 20

def k29m0 : Method := ⟨"<init>", "()V", ⟨[], none⟩, 1, none⟩
def k29 : Class := { plain "java/lang/Number" (some 0) with
  accessFlags := 1057
  interfaces := #[12]
  cf := some (fileOf pool29 8 #[] #[⟨1, 5, 6, #[]⟩] 1057 2 #[13] #[⟨26, 15, 16, #[]⟩])
  fields := #[⟨"serialVersionUID", .long, 26, 0, 0⟩]
  methods := #[k29m0]
  instanceTypes := #[]
  staticTypes := #[.long]
  resolved := Array.replicate 37 none
  statics := none }

def pool30 : Array CpInfo := pool [(1, .class_ 2), (0, u "java/lang/Integer"), (16, u "digits"), (0, u "[C"), (33, u "(I)I"), (19, u "stringSize"), (2, u "getChars"), (0, u "(II[B)I"), (4, .fieldref 1 84), (0, .nameAndType 85 86), (0, u "DigitOnes"), (0, u "[B"), (2, u "DigitTens"), (99, .class_ 190), (0, u "java/lang/Integer$IntegerCache"), (3, u "I"), (8, .class_ 204), (0, u "java/lang/Number"), (2, u "value"), (94, u "TYPE"), (0, u "Ljava/lang/Class;"), (0, .class_ 305), (0, u "java/lang/Comparable"), (0, .class_ 307), (0, u "java/lang/constant/Constable"), (0, .class_ 309), (0, u "java/lang/constant/ConstantDesc"), (0, u "MIN_VALUE"), (1, u "MAX_VALUE"), (3, u "SIZE"), (1, u "BYTES"), (1, u "serialVersionUID"), (0, u "J")] 131

def k30c0 : Code := { maxStack := 4, maxLocals := 7, code := jdk_33_method_12_code, exceptionTable := #[], attributes := #[] }
def k30m0 : Method := ⟨"getChars", "(II[B)I", ⟨[.int, .int, (.array .byte)], some .int⟩, 8, some k30c0⟩
def k30c1 : Code := { maxStack := 2, maxLocals := 4, code := jdk_33_method_13_code, exceptionTable := #[], attributes := #[] }
def k30m1 : Method := ⟨"stringSize", "(I)I", ⟨[.int], some .int⟩, 8, some k30c1⟩
def k30 : Class := { plain "java/lang/Integer" (some 29) with
  accessFlags := 49
  interfaces := #[23, 25, 26]
  cf := some (fileOf pool30 1 #[.nestMembers #[189]] #[⟨8, 77, 78, #[]⟩, ⟨8, 74, 54, #[]⟩] 49 203 #[304, 306, 308] #[⟨25, 310, 194, #[]⟩, ⟨25, 312, 194, #[]⟩, ⟨25, 302, 303, #[]⟩, ⟨24, 19, 20, #[]⟩, ⟨24, 89, 86, #[]⟩, ⟨24, 85, 86, #[]⟩, ⟨18, 207, 194, #[]⟩, ⟨25, 316, 194, #[]⟩, ⟨25, 318, 194, #[]⟩, ⟨26, 320, 321, #[]⟩])
  fields := #[⟨"MIN_VALUE", .int, 25, 0, 0⟩, ⟨"MAX_VALUE", .int, 25, 1, 0⟩, ⟨"TYPE", (.object "java/lang/Class"), 25, 2, 0⟩, ⟨"digits", (.array .char), 24, 3, 0⟩, ⟨"DigitTens", (.array .byte), 24, 4, 0⟩, ⟨"DigitOnes", (.array .byte), 24, 5, 0⟩, ⟨"value", .int, 18, 0, 0⟩, ⟨"SIZE", .int, 25, 6, 0⟩, ⟨"BYTES", .int, 25, 7, 0⟩, ⟨"serialVersionUID", .long, 26, 8, 0⟩]
  methods := #[k30m0, k30m1]
  instanceTypes := #[.int]
  staticTypes := #[.int, .int, (.object "java/lang/Class"), (.array .char), (.array .byte), (.array .byte), .int, .int, .long]
  resolved := Array.replicate 453 none
  statics := some 3 }

def pool31 : Array CpInfo := pool [(9, u "<init>"), (6, .class_ 18), (1, u "java/lang/Object"), (0, u "()V"), (1, .class_ 23), (1, u "jdk/internal/util/ArraysSupport"), (0, u "LOG2_ARRAY_LONG_INDEX_SCALE"), (0, u "I"), (2, u "U"), (0, u "Ljdk/internal/misc/Unsafe;"), (8, u "BIG_ENDIAN"), (0, u "Z"), (8, u "LOG2_BYTE_BIT_SIZE"), (4, u "LOG2_ARRAY_INT_INDEX_SCALE"), (54, u "JLA"), (0, u "Ljdk/internal/access/JavaLangAccess;"), (11, u "LOG2_ARRAY_BOOLEAN_INDEX_SCALE"), (9, u "LOG2_ARRAY_BYTE_INDEX_SCALE"), (5, u "LOG2_ARRAY_CHAR_INDEX_SCALE"), (5, u "LOG2_ARRAY_SHORT_INDEX_SCALE"), (18, u "LOG2_ARRAY_FLOAT_INDEX_SCALE"), (24, u "LOG2_ARRAY_DOUBLE_INDEX_SCALE"), (6, .methodref 195 196), (0, .class_ 197), (0, .nameAndType 198 199), (0, u "java/lang/Math"), (0, u "max"), (0, u "(II)I"), (0, .integer 2147483639), (76, u "T_BOOLEAN"), (2, u "T_CHAR"), (1, u "T_FLOAT"), (1, u "T_DOUBLE"), (1, u "T_BYTE"), (1, u "T_SHORT"), (1, u "T_INT"), (1, u "T_LONG"), (1, u "SOFT_MAX_ARRAY_LENGTH"), (56, u "newLength"), (0, u "(III)I")] 25

def k31m0 : Method := ⟨"<init>", "()V", ⟨[], none⟩, 2, none⟩
def k31c1 : Code := { maxStack := 3, maxLocals := 4, code := jdk_48_method_27_code, exceptionTable := #[], attributes := #[] }
def k31m1 : Method := ⟨"newLength", "(III)I", ⟨[.int, .int, .int], some .int⟩, 9, some k31c1⟩
def k31 : Class := { plain "jdk/internal/util/ArraysSupport" (some 0) with
  accessFlags := 33
  interfaces := #[]
  cf := some (fileOf pool31 21 #[] #[⟨2, 9, 19, #[]⟩, ⟨9, 351, 352, #[]⟩] 33 16 #[] #[⟨24, 28, 29, #[]⟩, ⟨26, 38, 39, #[]⟩, ⟨25, 121, 25, #[]⟩, ⟨25, 131, 25, #[]⟩, ⟨25, 137, 25, #[]⟩, ⟨25, 143, 25, #[]⟩, ⟨25, 53, 25, #[]⟩, ⟨25, 24, 25, #[]⟩, ⟨25, 162, 25, #[]⟩, ⟨25, 187, 25, #[]⟩, ⟨26, 48, 25, #[]⟩, ⟨25, 277, 25, #[]⟩, ⟨25, 280, 25, #[]⟩, ⟨25, 282, 25, #[]⟩, ⟨25, 284, 25, #[]⟩, ⟨25, 286, 25, #[]⟩, ⟨25, 288, 25, #[]⟩, ⟨25, 290, 25, #[]⟩, ⟨25, 292, 25, #[]⟩, ⟨26, 108, 109, #[]⟩, ⟨25, 294, 25, #[]⟩])
  fields := #[⟨"U", (.object "jdk/internal/misc/Unsafe"), 24, 0, 0⟩, ⟨"BIG_ENDIAN", .boolean, 26, 1, 0⟩, ⟨"LOG2_ARRAY_BOOLEAN_INDEX_SCALE", .int, 25, 2, 0⟩, ⟨"LOG2_ARRAY_BYTE_INDEX_SCALE", .int, 25, 3, 0⟩, ⟨"LOG2_ARRAY_CHAR_INDEX_SCALE", .int, 25, 4, 0⟩, ⟨"LOG2_ARRAY_SHORT_INDEX_SCALE", .int, 25, 5, 0⟩, ⟨"LOG2_ARRAY_INT_INDEX_SCALE", .int, 25, 6, 0⟩, ⟨"LOG2_ARRAY_LONG_INDEX_SCALE", .int, 25, 7, 0⟩, ⟨"LOG2_ARRAY_FLOAT_INDEX_SCALE", .int, 25, 8, 0⟩, ⟨"LOG2_ARRAY_DOUBLE_INDEX_SCALE", .int, 25, 9, 0⟩, ⟨"LOG2_BYTE_BIT_SIZE", .int, 26, 10, 0⟩, ⟨"T_BOOLEAN", .int, 25, 11, 0⟩, ⟨"T_CHAR", .int, 25, 12, 0⟩, ⟨"T_FLOAT", .int, 25, 13, 0⟩, ⟨"T_DOUBLE", .int, 25, 14, 0⟩, ⟨"T_BYTE", .int, 25, 15, 0⟩, ⟨"T_SHORT", .int, 25, 16, 0⟩, ⟨"T_INT", .int, 25, 17, 0⟩, ⟨"T_LONG", .int, 25, 18, 0⟩, ⟨"JLA", (.object "jdk/internal/access/JavaLangAccess"), 26, 19, 0⟩, ⟨"SOFT_MAX_ARRAY_LENGTH", .int, 25, 20, 0⟩]
  methods := #[k31m0, k31m1]
  instanceTypes := #[]
  staticTypes := #[(.object "jdk/internal/misc/Unsafe"), .boolean, .int, .int, .int, .int, .int, .int, .int, .int, .int, .int, .int, .int, .int, .int, .int, .int, .int, (.object "jdk/internal/access/JavaLangAccess"), .int]
  resolved := Array.replicate 378 none
  statics := none }

def pool32 : Array CpInfo := pool [(2, .class_ 4), (1, u "java/lang/Object"), (0, u "<init>"), (0, u "()V"), (7, .class_ 16), (1, u "java/util/Arrays"), (57, .class_ 76), (1, u "java/util/Arrays$NaturalOrder"), (9, .methodref 2 87), (0, .nameAndType 88 89), (0, u "getClass"), (0, u "()Ljava/lang/Class;"), (20, .class_ 111), (0, u "[Ljava/lang/Object;"), (1, .class_ 115), (1, u "java/util/Arrays$LegacyMergeSort"), (1, u "Z"), (21, u "copyOfRange"), (10, .methodref 151 152), (0, .class_ 153), (0, .nameAndType 154 155), (0, u "java/lang/System"), (0, u "arraycopy"), (0, u "(Ljava/lang/Object;ILjava/lang/Object;II)V"), (144, .methodref 14 301), (0, .nameAndType 302 303), (0, u "copyOf"), (0, u "([Ljava/lang/Object;ILjava/lang/Class;)[Ljava/lang/Object;"), (0, .methodref 305 306), (0, .class_ 307), (0, .nameAndType 308 309), (0, u "java/lang/Math"), (0, u "min"), (0, u "(II)I"), (29, .methodref 14 340), (0, .nameAndType 341 342), (0, u "copyOfRangeByte"), (0, u "([BII)[B"), (0, .methodref 14 344), (0, .nameAndType 345 346), (0, u "checkLength"), (0, u "(II)V"), (28, .class_ 376), (0, u "java/util/Arrays$ArrayList"), (68, u "$assertionsDisabled"), (269, u "MIN_ARRAY_SORT_GRAN"), (0, u "I"), (2, u "INSERTIONSORT_THRESHOLD"), (140, u "([Ljava/lang/Object;I)[Ljava/lang/Object;"), (8, u "([BI)[B"), (105, .class_ 976), (0, u "java/util/Arrays$ArrayItr")] 52

def k32m0 : Method := ⟨"<init>", "()V", ⟨[], none⟩, 2, none⟩
def k32c1 : Code := { maxStack := 3, maxLocals := 2, code := jdk_65_method_119_code, exceptionTable := #[], attributes := #[] }
def k32m1 : Method := ⟨"copyOf", "([Ljava/lang/Object;I)[Ljava/lang/Object;", ⟨[(.array (.object "java/lang/Object")), .int], some (.array (.object "java/lang/Object"))⟩, 9, some k32c1⟩
def k32c2 : Code := { maxStack := 6, maxLocals := 4, code := jdk_65_method_120_code, exceptionTable := #[], attributes := #[] }
def k32m2 : Method := ⟨"copyOf", "([Ljava/lang/Object;ILjava/lang/Class;)[Ljava/lang/Object;", ⟨[(.array (.object "java/lang/Object")), .int, (.object "java/lang/Class")], some (.array (.object "java/lang/Object"))⟩, 9, some k32c2⟩
def k32c3 : Code := { maxStack := 6, maxLocals := 3, code := jdk_65_method_121_code, exceptionTable := #[], attributes := #[] }
def k32m3 : Method := ⟨"copyOf", "([BI)[B", ⟨[(.array .byte), .int], some (.array .byte)⟩, 9, some k32c3⟩
def k32c4 : Code := { maxStack := 4, maxLocals := 2, code := jdk_65_method_131_code, exceptionTable := #[], attributes := #[] }
def k32m4 : Method := ⟨"checkLength", "(II)V", ⟨[.int, .int], none⟩, 10, some k32c4⟩
def k32c5 : Code := { maxStack := 3, maxLocals := 3, code := jdk_65_method_132_code, exceptionTable := #[], attributes := #[] }
def k32m5 : Method := ⟨"copyOfRange", "([BII)[B", ⟨[(.array .byte), .int, .int], some (.array .byte)⟩, 9, some k32c5⟩
def k32c6 : Code := { maxStack := 6, maxLocals := 5, code := jdk_65_method_133_code, exceptionTable := #[], attributes := #[] }
def k32m6 : Method := ⟨"copyOfRangeByte", "([BII)[B", ⟨[(.array .byte), .int, .int], some (.array .byte)⟩, 10, some k32c6⟩
def k32 : Class := { plain "java/util/Arrays" (some 0) with
  accessFlags := 49
  interfaces := #[]
  cf := some (fileOf pool32 14 #[.nestMembers #[975, 375, 113, 74]] #[⟨2, 5, 6, #[]⟩, ⟨9, 302, 860, #[]⟩, ⟨9, 302, 303, #[]⟩, ⟨9, 302, 869, #[]⟩, ⟨10, 345, 346, #[]⟩, ⟨9, 139, 342, #[]⟩, ⟨10, 341, 342, #[]⟩] 49 2 #[] #[⟨26, 715, 716, #[]⟩, ⟨26, 719, 716, #[]⟩, ⟨4120, 445, 117, #[]⟩])
  fields := #[⟨"MIN_ARRAY_SORT_GRAN", .int, 26, 0, 0⟩, ⟨"INSERTIONSORT_THRESHOLD", .int, 26, 1, 0⟩, ⟨"$assertionsDisabled", .boolean, 4120, 2, 0⟩]
  methods := #[k32m0, k32m1, k32m2, k32m3, k32m4, k32m5, k32m6]
  instanceTypes := #[]
  staticTypes := #[.int, .int, .boolean]
  resolved := Array.replicate 1029 none
  statics := none }

def pool33 : Array CpInfo := pool [(6, .class_ 8), (1, u "java/lang/Object"), (0, u "<init>"), (0, u "()V"), (1, .class_ 14), (1, u "java/lang/StringUTF16"), (31, u "$assertionsDisabled"), (0, u "Z"), (13, u "HI_BYTE_SHIFT"), (0, u "I"), (2, u "LO_BYTE_SHIFT"), (49, .methodref 12 116), (0, .nameAndType 117 118), (0, u "compress"), (0, u "([CI[BII)I"), (3, u "([CII)[B"), (138, u "coderFromArrayLen"), (0, u "([BI)B"), (106, .class_ 371), (1, u "java/lang/StringUTF16$LinesSpliterator"), (58, u "MAX_LENGTH"), (196, .class_ 628), (0, u "java/lang/StringUTF16$CodePointsSpliterator"), (0, .class_ 630), (0, u "java/lang/StringUTF16$CharsSpliterator")] 4

def k33m0 : Method := ⟨"<init>", "()V", ⟨[], none⟩, 0, none⟩
def k33c1 : Code := { maxStack := 2, maxLocals := 2, code := jdk_52_method_15_code, exceptionTable := #[], attributes := #[] }
def k33m1 : Method := ⟨"coderFromArrayLen", "([BI)B", ⟨[(.array .byte), .int], some .byte⟩, 8, some k33c1⟩
def k33c2 : Code := { maxStack := 5, maxLocals := 6, code := jdk_52_method_16_code, exceptionTable := #[], attributes := #[] }
def k33m2 : Method := ⟨"compress", "([CII)[B", ⟨[(.array .char), .int, .int], some (.array .byte)⟩, 9, some k33c2⟩
def k33c3 : Code := { maxStack := 3, maxLocals := 7, code := jdk_52_method_21_code, exceptionTable := #[], attributes := #[] }
def k33m3 : Method := ⟨"compress", "([CI[BII)I", ⟨[(.array .char), .int, (.array .byte), .int, .int], some .int⟩, 9, some k33c3⟩
def k33 : Class := { plain "java/lang/StringUTF16" (some 0) with
  accessFlags := 48
  interfaces := #[]
  cf := some (fileOf pool33 12 #[.nestMembers #[627, 629, 369]] #[⟨0, 9, 10, #[]⟩, ⟨8, 261, 262, #[]⟩, ⟨9, 117, 122, #[]⟩, ⟨9, 117, 118, #[]⟩] 48 6 #[] #[⟨26, 61, 62, #[]⟩, ⟨26, 65, 62, #[]⟩, ⟨24, 430, 62, #[]⟩, ⟨4120, 46, 47, #[]⟩])
  fields := #[⟨"HI_BYTE_SHIFT", .int, 26, 0, 0⟩, ⟨"LO_BYTE_SHIFT", .int, 26, 1, 0⟩, ⟨"MAX_LENGTH", .int, 24, 2, 0⟩, ⟨"$assertionsDisabled", .boolean, 4120, 3, 0⟩]
  methods := #[k33m0, k33m1, k33m2, k33m3]
  instanceTypes := #[]
  staticTypes := #[.int, .int, .int, .boolean]
  resolved := Array.replicate 635 none
  statics := none }

def pool34 : Array CpInfo := pool [(4, .class_ 6), (1, u "java/lang/Object"), (0, u "<init>"), (0, u "()V"), (5, .class_ 16), (1, u "java/lang/StringLatin1"), (104, u "$assertionsDisabled"), (0, u "Z"), (98, .class_ 223), (1, u "java/lang/StringLatin1$LinesSpliterator"), (57, u "equals"), (0, u "([B[B)Z"), (107, .class_ 391), (0, u "java/lang/StringLatin1$CharsSpliterator")] 3

def k34m0 : Method := ⟨"<init>", "()V", ⟨[], none⟩, 0, none⟩
def k34c1 : Code := { maxStack := 3, maxLocals := 3, code := jdk_43_method_13_code, exceptionTable := #[], attributes := #[] }
def k34m1 : Method := ⟨"equals", "([B[B)Z", ⟨[(.array .byte), (.array .byte)], some .boolean⟩, 9, some k34c1⟩
def k34 : Class := { plain "java/lang/StringLatin1" (some 0) with
  accessFlags := 48
  interfaces := #[]
  cf := some (fileOf pool34 14 #[.nestMembers #[390, 221]] #[⟨0, 7, 8, #[]⟩, ⟨9, 281, 282, #[]⟩] 48 4 #[] #[⟨4120, 121, 122, #[]⟩])
  fields := #[⟨"$assertionsDisabled", .boolean, 4120, 0, 0⟩]
  methods := #[k34m0, k34m1]
  instanceTypes := #[]
  staticTypes := #[.boolean]
  resolved := Array.replicate 395 none
  statics := none }

def pool35 : Array CpInfo := pool [(2, .class_ 4), (1, u "java/lang/Object"), (0, u "<init>"), (0, u "()V"), (35, .class_ 44), (1, u "java/util/Objects"), (0, u "requireNonNull"), (0, u "(Ljava/lang/Object;)Ljava/lang/Object;")] 137

def k35m0 : Method := ⟨"<init>", "()V", ⟨[], none⟩, 2, none⟩
def k35c1 : Code := { maxStack := 2, maxLocals := 1, code := jdk_31_method_10_code, exceptionTable := #[], attributes := #[] }
def k35m1 : Method := ⟨"requireNonNull", "(Ljava/lang/Object;)Ljava/lang/Object;", ⟨[(.object "java/lang/Object")], some (.object "java/lang/Object")⟩, 9, some k35c1⟩
def k35 : Class := { plain "java/util/Objects" (some 0) with
  accessFlags := 49
  interfaces := #[]
  cf := some (fileOf pool35 42 #[] #[⟨2, 5, 6, #[]⟩, ⟨9, 45, 46, #[]⟩] 49 2 #[] #[])
  fields := #[]
  methods := #[k35m0, k35m1]
  instanceTypes := #[]
  staticTypes := #[]
  resolved := Array.replicate 184 none
  statics := none }

def pool36 : Array CpInfo := pool [(2, .class_ 4), (1, u "java/lang/Object"), (0, u "<init>"), (0, u "()V"), (17, .class_ 26), (1, u "jdk/internal/util/Preconditions"), (28, .class_ 56), (0, u "jdk/internal/util/Preconditions$4"), (57, .class_ 115), (0, u "jdk/internal/util/Preconditions$1"), (7, u "SIOOBE_FORMATTER"), (0, u "Ljava/util/function/BiFunction;"), (0, .class_ 126), (0, u "jdk/internal/util/Preconditions$2"), (3, u "AIOOBE_FORMATTER"), (0, .class_ 132), (0, u "jdk/internal/util/Preconditions$3"), (3, u "IOOBE_FORMATTER")] 57

def k36m0 : Method := ⟨"<init>", "()V", ⟨[], none⟩, 1, none⟩
def k36 : Class := { plain "jdk/internal/util/Preconditions" (some 0) with
  accessFlags := 33
  interfaces := #[]
  cf := some (fileOf pool36 24 #[.nestMembers #[55, 131, 125, 114]] #[⟨1, 5, 6, #[]⟩] 33 2 #[] #[⟨25, 123, 124, #[]⟩, ⟨25, 130, 124, #[]⟩, ⟨25, 136, 124, #[]⟩])
  fields := #[⟨"SIOOBE_FORMATTER", (.object "java/util/function/BiFunction"), 25, 0, 0⟩, ⟨"AIOOBE_FORMATTER", (.object "java/util/function/BiFunction"), 25, 1, 0⟩, ⟨"IOOBE_FORMATTER", (.object "java/util/function/BiFunction"), 25, 2, 0⟩]
  methods := #[k36m0]
  instanceTypes := #[]
  staticTypes := #[(.object "java/util/function/BiFunction"), (.object "java/util/function/BiFunction"), (.object "java/util/function/BiFunction")]
  resolved := Array.replicate 194 none
  statics := some 4 }

def pool37 : Array CpInfo := pool [(1, u "java/lang/Class"), (0, .class_ 1), (0, u "java/lang/Object"), (0, .class_ 3)] 0

def k37 : Class := { plain "java/lang/Class" (some 0) with
  accessFlags := 49
  interfaces := #[]
  cf := some (fileOf pool37 2 #[] #[] 49 4 #[] #[])
  fields := #[]
  methods := #[]
  instanceTypes := #[]
  staticTypes := #[]
  resolved := Array.replicate 5 none
  statics := none }

def k38 : Class := { plain "byte" none with kind := .primitive 'B', accessFlags := 0x411 }
def k39 : Class := { plain "[B" (some 0) with kind := .array 38 .byte, interfaces := #[11, 12], accessFlags := 1041 }

def k40 : Class := { plain "char" none with kind := .primitive 'C', accessFlags := 0x411 }
def k41 : Class := { plain "[C" (some 0) with kind := .array 40 .char, interfaces := #[11, 12], accessFlags := 1041 }

def k42 : Class := { plain "int" none with kind := .primitive 'I', accessFlags := 0x411 }
def k43 : Class := { plain "[I" (some 0) with kind := .array 42 .int, interfaces := #[11, 12], accessFlags := 1041 }

def k44 : Class := { plain "[Ljava/lang/Object;" (some 0) with mirror := some 5, kind := .array 0 (.object "java/lang/Object"), interfaces := #[11, 12], accessFlags := 1041 }

def heap : Heap := #[{ cls := 13, slots := #[.long 0, .int 0, .ref 10, .ref 11], vm := .statics 13 },
  { cls := 14, slots := #[.long 0, .int 0, .null, .ref 12, .ref 9, .null, .null, .null, .int 0, .int 1], vm := .statics 14 },
  { cls := 27, slots := #[.long 0, .int 1, .null, .int 0, .null, .int 0, .int 0], vm := .statics 27 },
  { cls := 30, slots := #[.int 0, .int 0, .null, .null, .ref 8, .ref 7, .int 0, .int 0, .long 0], vm := .statics 30 },
  { cls := 36, slots := #[.null, .null, .null], vm := .statics 36 },
  { cls := 37, slots := #[], vm := .mirror 44 },
  { cls := 44, slots := #[], vm := .none },
  { cls := 39, slots := #[.int 48, .int 49, .int 50, .int 51, .int 52, .int 53, .int 54, .int 55, .int 56, .int 57, .int 48, .int 49, .int 50, .int 51, .int 52, .int 53, .int 54, .int 55, .int 56, .int 57, .int 48, .int 49, .int 50, .int 51, .int 52, .int 53, .int 54, .int 55, .int 56, .int 57, .int 48, .int 49, .int 50, .int 51, .int 52, .int 53, .int 54, .int 55, .int 56, .int 57, .int 48, .int 49, .int 50, .int 51, .int 52, .int 53, .int 54, .int 55, .int 56, .int 57, .int 48, .int 49, .int 50, .int 51, .int 52, .int 53, .int 54, .int 55, .int 56, .int 57, .int 48, .int 49, .int 50, .int 51, .int 52, .int 53, .int 54, .int 55, .int 56, .int 57, .int 48, .int 49, .int 50, .int 51, .int 52, .int 53, .int 54, .int 55, .int 56, .int 57, .int 48, .int 49, .int 50, .int 51, .int 52, .int 53, .int 54, .int 55, .int 56, .int 57, .int 48, .int 49, .int 50, .int 51, .int 52, .int 53, .int 54, .int 55, .int 56, .int 57], vm := .none },
  { cls := 39, slots := #[.int 48, .int 48, .int 48, .int 48, .int 48, .int 48, .int 48, .int 48, .int 48, .int 48, .int 49, .int 49, .int 49, .int 49, .int 49, .int 49, .int 49, .int 49, .int 49, .int 49, .int 50, .int 50, .int 50, .int 50, .int 50, .int 50, .int 50, .int 50, .int 50, .int 50, .int 51, .int 51, .int 51, .int 51, .int 51, .int 51, .int 51, .int 51, .int 51, .int 51, .int 52, .int 52, .int 52, .int 52, .int 52, .int 52, .int 52, .int 52, .int 52, .int 52, .int 53, .int 53, .int 53, .int 53, .int 53, .int 53, .int 53, .int 53, .int 53, .int 53, .int 54, .int 54, .int 54, .int 54, .int 54, .int 54, .int 54, .int 54, .int 54, .int 54, .int 55, .int 55, .int 55, .int 55, .int 55, .int 55, .int 55, .int 55, .int 55, .int 55, .int 56, .int 56, .int 56, .int 56, .int 56, .int 56, .int 56, .int 56, .int 56, .int 56, .int 57, .int 57, .int 57, .int 57, .int 57, .int 57, .int 57, .int 57, .int 57, .int 57], vm := .none },
  { cls := 18, slots := #[.ref 6, .int 0], vm := .none },
  { cls := 44, slots := #[], vm := .none },
  { cls := 44, slots := #[], vm := .none },
  { cls := 0, slots := #[], vm := .none }]
def classes : Array Class := #[k0, k1, k2, k3, k4, k5, k6, k7, k8, k9, k10, k11, k12, k13, k14, k15, k16, k17, k18, k19, k20, k21, k22, k23, k24, k25, k26, k27, k28, k29, k30, k31, k32, k33, k34, k35, k36, k37, k38, k39, k40, k41, k42, k43, k44]
def interned : List (Array UInt16 × Addr) := []
def slotsUsed : Nat := 235
def theMethod : MethodId := ⟨1, 1⟩
def args0 : Array Value := #[.int 3, .int 1]
def aboutOver (below : List Frame) : State where
  vm := { classes := classes, interned := interned.toArray }
  heap := heap
  slotsUsed := slotsUsed
  threads := #[{ frames := .invoking theMethod args0 :: below }]
def below0 : List Frame := [.native { method := ⟨0, 0⟩, args := #[] }]
def about1 : State := aboutOver below0
def p0 : Program := .bare "" "" ""
def e0 : Env := launch0.env 0 0 0
theorem w_frames : about1.frames = Frame.invoking theMethod args0 :: below0 := rfl
theorem w_args : argsFit about1.vm theMethod args0 = true := by decide +kernel
theorem w_heap : heapFits about1 = true := by decide +kernel
theorem w_runnable : about1.curStatus? = some .runnable := by decide +kernel
theorem w_alone : about1.alone = true := by decide +kernel
theorem w_named : about1.methodNamed? x = some theMethod := by decide +kernel
theorem w_hears : about1.hears theMethod below0 = true := by decide +kernel
theorem w_ripe : about1.ripe theMethod args0 below0 = true := by decide +kernel
theorem w_running : about1.status = .running := rfl
theorem w_room : about1.hasRoom e0.platform room_1 = true :=
  launch0.hasRoom_least _ room_1 (by decide +kernel) (by decide +kernel) (by decide +kernel) (by decide +kernel) (by decide +kernel) (by decide +kernel)
theorem allAtoms_all (ts : List Jvm.Cond) (a : Array Jvm.Value) (st : Jvm.State) : (allAtoms ts).before a st = ts.all (fun c => c.before a st) := by
  induction ts with
  | nil => rfl
  | cons c t ih =>
    show (Jvm.Cond.and c (allAtoms t)).before a st = _
    rw [Jvm.Cond.before_and, ih, List.all_cons]
def words1 : List Jvm.Cond := Jvm.Cond.code x code maxLocals ret :: tables_1
theorem code_word {y : MethodName} {bytes : ByteArray} {mx : Nat} {rt : Option FieldType} {a : Array Value} {s : State} {m : MethodId} {meth : Method} {c : Code} (h1 : s.methodNamed? y = some m) (h2 : s.vm.method? m = some meth) (h3 : meth.code = some c) (h4 : c.code = bytes)
    (h5 : (c.maxLocals == mx && c.exceptionTable.isEmpty && decide (c.maxStack ≤ mostOperands) && decide (meth.sig.returnType = rt) && !meth.locks && decide (parseMethodDescriptor y.desc = some meth.sig)) = true) : (Jvm.Cond.code y bytes mx rt).before a s = true := by
  simp only [Bool.and_eq_true, beq_iff_eq, Bool.not_eq_true', decide_eq_true_eq] at h5
  obtain ⟨⟨⟨⟨⟨g1, g2⟩, g3⟩, g4⟩, g5⟩, g6⟩ := h5
  simp [Cond.before, Cond.holds, Cond.value, h1, h2, h3, h4, g1, g2, g3, g4, g5, g6]
def isCode : Jvm.Cond → Bool
  | .code _ _ _ _ => true
  | _ => false
theorem all_split {L : List Jvm.Cond} {P : Jvm.Cond → Bool} (h1 : L.all (fun c => isCode c || P c) = true) (h2 : ∀ c ∈ L.filter isCode, P c = true) : L.all P = true := by
  refine List.all_eq_true.mpr fun c hc => ?_
  have h := List.all_eq_true.mp h1 c hc
  rcases Bool.eq_false_or_eq_true (isCode c) with hi | hi
  · exact h2 c (List.mem_filter.mpr ⟨hc, hi⟩)
  · simpa [hi] using h
theorem w_c0 : (Jvm.Cond.code x code maxLocals ret).before args0 about1 = true := code_word (m := ⟨1, 1⟩) (meth := k1m1) (c := k1c1) (by decide +kernel) rfl rfl rfl (by decide +kernel)
theorem w_c1 : (Jvm.Cond.code ⟨"java/util/ArrayList", "<init>", "()V"⟩ jdk_38_method_2_code 1 none).before args0 about1 = true := code_word (m := ⟨13, 0⟩) (meth := k13m0) (c := k13c0) (by decide +kernel) rfl rfl rfl (by decide +kernel)
theorem w_c2 : (Jvm.Cond.code ⟨"java/util/AbstractList", "<init>", "()V"⟩ jdk_39_method_1_code 1 none).before args0 about1 = true := code_word (m := ⟨9, 0⟩) (meth := k9m0) (c := k9c0) (by decide +kernel) rfl rfl rfl (by decide +kernel)
theorem w_c3 : (Jvm.Cond.code ⟨"java/util/AbstractCollection", "<init>", "()V"⟩ jdk_22_method_1_code 1 none).before args0 about1 = true := code_word (m := ⟨6, 0⟩) (meth := k6m0) (c := k6c0) (by decide +kernel) rfl rfl rfl (by decide +kernel)
theorem w_c4 : (Jvm.Cond.code ⟨"java/lang/Object", "<init>", "()V"⟩ object_method_1_code 1 none).before args0 about1 = true := code_word (m := ⟨0, 0⟩) (meth := k0m0) (c := k0c0) (by decide +kernel) rfl rfl rfl (by decide +kernel)
theorem w_c5 : (Jvm.Cond.code ⟨"com/example/interplay/interplay/history/Group", "<init>", "(Ljava/util/List;)V"⟩ prog_29_method_1_code 2 none).before args0 about1 = true := code_word (m := ⟨3, 0⟩) (meth := k3m0) (c := k3c0) (by decide +kernel) rfl rfl rfl (by decide +kernel)
theorem w_c6 : (Jvm.Cond.code ⟨"java/util/List", "copyOf", "(Ljava/util/Collection;)Ljava/util/List;"⟩ jdk_40_method_48_code 1 (some (.object "java/util/List"))).before args0 about1 = true := code_word (m := ⟨8, 3⟩) (meth := k8m3) (c := k8c3) (by decide +kernel) rfl rfl rfl (by decide +kernel)
theorem w_c7 : (Jvm.Cond.code ⟨"java/util/ImmutableCollections", "listCopy", "(Ljava/util/Collection;)Ljava/util/List;"⟩ jdk_56_method_3_code 2 (some (.object "java/util/List"))).before args0 about1 = true := code_word (m := ⟨14, 1⟩) (meth := k14m1) (c := k14c1) (by decide +kernel) rfl rfl rfl (by decide +kernel)
theorem w_c8 : (Jvm.Cond.code ⟨"java/util/ArrayList", "isEmpty", "()Z"⟩ jdk_38_method_9_code 1 (some .boolean)).before args0 about1 = true := code_word (m := ⟨13, 3⟩) (meth := k13m3) (c := k13c3) (by decide +kernel) rfl rfl rfl (by decide +kernel)
theorem w_c9 : (Jvm.Cond.code ⟨"java/util/List", "of", "()Ljava/util/List;"⟩ jdk_40_method_36_code 0 (some (.object "java/util/List"))).before args0 about1 = true := code_word (m := ⟨8, 1⟩) (meth := k8m1) (c := k8c1) (by decide +kernel) rfl rfl rfl (by decide +kernel)
theorem w_c10 : (Jvm.Cond.code ⟨"java/util/ArrayList", "add", "(Ljava/lang/Object;)Z"⟩ jdk_38_method_25_code 2 (some .boolean)).before args0 about1 = true := code_word (m := ⟨13, 6⟩) (meth := k13m6) (c := k13c6) (by decide +kernel) rfl rfl rfl (by decide +kernel)
theorem w_c11 : (Jvm.Cond.code ⟨"java/util/ArrayList", "add", "(Ljava/lang/Object;[Ljava/lang/Object;I)V"⟩ jdk_38_method_24_code 4 none).before args0 about1 = true := code_word (m := ⟨13, 5⟩) (meth := k13m5) (c := k13c5) (by decide +kernel) rfl rfl rfl (by decide +kernel)
theorem w_c12 : (Jvm.Cond.code ⟨"java/util/ArrayList", "grow", "()[Ljava/lang/Object;"⟩ jdk_38_method_7_code 1 (some (.array (.object "java/lang/Object")))).before args0 about1 = true := code_word (m := ⟨13, 2⟩) (meth := k13m2) (c := k13c2) (by decide +kernel) rfl rfl rfl (by decide +kernel)
theorem w_c13 : (Jvm.Cond.code ⟨"java/util/ArrayList", "grow", "(I)[Ljava/lang/Object;"⟩ jdk_38_method_6_code 4 (some (.array (.object "java/lang/Object")))).before args0 about1 = true := code_word (m := ⟨13, 1⟩) (meth := k13m1) (c := k13c1) (by decide +kernel) rfl rfl rfl (by decide +kernel)
theorem w_c14 : (Jvm.Cond.code ⟨"java/lang/Math", "max", "(II)I"⟩ jdk_29_method_65_code 2 (some .int)).before args0 about1 = true := code_word (m := ⟨19, 1⟩) (meth := k19m1) (c := k19c1) (by decide +kernel) rfl rfl rfl (by decide +kernel)
theorem w_c15 : (Jvm.Cond.code ⟨"com/example/interplay/interplay/history/Group", "toString", "()Ljava/lang/String;"⟩ prog_29_method_6_code 1 (some (.object "java/lang/String"))).before args0 about1 = true := code_word (m := ⟨3, 1⟩) (meth := k3m1) (c := k3c1) (by decide +kernel) rfl rfl rfl (by decide +kernel)
theorem w_c16 : (Jvm.Cond.code ⟨"java/lang/StringBuilder", "<init>", "()V"⟩ jdk_67_method_1_code 1 none).before args0 about1 = true := code_word (m := ⟨24, 0⟩) (meth := k24m0) (c := k24c0) (by decide +kernel) rfl rfl rfl (by decide +kernel)
theorem w_c17 : (Jvm.Cond.code ⟨"java/lang/AbstractStringBuilder", "<init>", "(I)V"⟩ jdk_68_method_2_code 2 none).before args0 about1 = true := code_word (m := ⟨22, 1⟩) (meth := k22m1) (c := k22c1) (by decide +kernel) rfl rfl rfl (by decide +kernel)
theorem w_c18 : (Jvm.Cond.code ⟨"java/lang/StringBuilder", "append", "(Ljava/lang/String;)Ljava/lang/StringBuilder;"⟩ jdk_67_method_7_code 2 (some (.object "java/lang/StringBuilder"))).before args0 about1 = true := code_word (m := ⟨24, 1⟩) (meth := k24m1) (c := k24c1) (by decide +kernel) rfl rfl rfl (by decide +kernel)
theorem w_c19 : (Jvm.Cond.code ⟨"java/lang/AbstractStringBuilder", "append", "(Ljava/lang/String;)Ljava/lang/AbstractStringBuilder;"⟩ jdk_68_method_22_code 3 (some (.object "java/lang/AbstractStringBuilder"))).before args0 about1 = true := code_word (m := ⟨22, 5⟩) (meth := k22m5) (c := k22c5) (by decide +kernel) rfl rfl rfl (by decide +kernel)
theorem w_c20 : (Jvm.Cond.code ⟨"java/lang/String", "length", "()I"⟩ jdk_42_method_54_code 1 (some .int)).before args0 about1 = true := code_word (m := ⟨27, 3⟩) (meth := k27m3) (c := k27c3) (by decide +kernel) rfl rfl rfl (by decide +kernel)
theorem w_c21 : (Jvm.Cond.code ⟨"java/lang/String", "coder", "()B"⟩ jdk_42_method_152_code 1 (some .byte)).before args0 about1 = true := code_word (m := ⟨27, 8⟩) (meth := k27m8) (c := k27c8) (by decide +kernel) rfl rfl rfl (by decide +kernel)
theorem w_c22 : (Jvm.Cond.code ⟨"java/lang/AbstractStringBuilder", "ensureCapacityInternal", "(I)V"⟩ jdk_68_method_9_code 3 none).before args0 about1 = true := code_word (m := ⟨22, 3⟩) (meth := k22m3) (c := k22c3) (by decide +kernel) rfl rfl rfl (by decide +kernel)
theorem w_c23 : (Jvm.Cond.code ⟨"java/lang/AbstractStringBuilder", "putStringAt", "(ILjava/lang/String;)V"⟩ jdk_68_method_73_code 3 none).before args0 about1 = true := code_word (m := ⟨22, 10⟩) (meth := k22m10) (c := k22c10) (by decide +kernel) rfl rfl rfl (by decide +kernel)
theorem w_c24 : (Jvm.Cond.code ⟨"java/lang/AbstractStringBuilder", "inflateIfNeededFor", "(Ljava/lang/String;)V"⟩ jdk_68_method_71_code 2 none).before args0 about1 = true := code_word (m := ⟨22, 9⟩) (meth := k22m9) (c := k22c9) (by decide +kernel) rfl rfl rfl (by decide +kernel)
theorem w_c25 : (Jvm.Cond.code ⟨"java/lang/String", "getBytes", "([BIB)V"⟩ jdk_42_method_147_code 4 none).before args0 about1 = true := code_word (m := ⟨27, 5⟩) (meth := k27m5) (c := k27c5) (by decide +kernel) rfl rfl rfl (by decide +kernel)
theorem w_c26 : (Jvm.Cond.code ⟨"java/util/ImmutableCollections$ListN", "size", "()I"⟩ jdk_45_method_3_code 1 (some .int)).before args0 about1 = true := code_word (m := ⟨18, 1⟩) (meth := k18m1) (c := k18c1) (by decide +kernel) rfl rfl rfl (by decide +kernel)
theorem w_c27 : (Jvm.Cond.code ⟨"java/lang/StringBuilder", "append", "(I)Ljava/lang/StringBuilder;"⟩ jdk_67_method_15_code 2 (some (.object "java/lang/StringBuilder"))).before args0 about1 = true := code_word (m := ⟨24, 2⟩) (meth := k24m2) (c := k24c2) (by decide +kernel) rfl rfl rfl (by decide +kernel)
theorem w_c28 : (Jvm.Cond.code ⟨"java/lang/AbstractStringBuilder", "append", "(I)Ljava/lang/AbstractStringBuilder;"⟩ jdk_68_method_32_code 4 (some (.object "java/lang/AbstractStringBuilder"))).before args0 about1 = true := code_word (m := ⟨22, 6⟩) (meth := k22m6) (c := k22c6) (by decide +kernel) rfl rfl rfl (by decide +kernel)
theorem w_c29 : (Jvm.Cond.code ⟨"java/lang/Integer", "stringSize", "(I)I"⟩ jdk_33_method_13_code 4 (some .int)).before args0 about1 = true := code_word (m := ⟨30, 1⟩) (meth := k30m1) (c := k30c1) (by decide +kernel) rfl rfl rfl (by decide +kernel)
theorem w_c30 : (Jvm.Cond.code ⟨"java/lang/AbstractStringBuilder", "isLatin1", "()Z"⟩ jdk_68_method_68_code 1 (some .boolean)).before args0 about1 = true := code_word (m := ⟨22, 8⟩) (meth := k22m8) (c := k22c8) (by decide +kernel) rfl rfl rfl (by decide +kernel)
theorem w_c31 : (Jvm.Cond.code ⟨"java/lang/Integer", "getChars", "(II[B)I"⟩ jdk_33_method_12_code 7 (some .int)).before args0 about1 = true := code_word (m := ⟨30, 0⟩) (meth := k30m0) (c := k30c0) (by decide +kernel) rfl rfl rfl (by decide +kernel)
theorem w_c32 : (Jvm.Cond.code ⟨"java/lang/AbstractStringBuilder", "newCapacity", "(I)I"⟩ jdk_68_method_10_code 6 (some .int)).before args0 about1 = true := code_word (m := ⟨22, 4⟩) (meth := k22m4) (c := k22c4) (by decide +kernel) rfl rfl rfl (by decide +kernel)
theorem w_c33 : (Jvm.Cond.code ⟨"jdk/internal/util/ArraysSupport", "newLength", "(III)I"⟩ jdk_48_method_27_code 4 (some .int)).before args0 about1 = true := code_word (m := ⟨31, 1⟩) (meth := k31m1) (c := k31c1) (by decide +kernel) rfl rfl rfl (by decide +kernel)
theorem w_c34 : (Jvm.Cond.code ⟨"java/util/Arrays", "copyOf", "([BI)[B"⟩ jdk_65_method_121_code 3 (some (.array .byte))).before args0 about1 = true := code_word (m := ⟨32, 3⟩) (meth := k32m3) (c := k32c3) (by decide +kernel) rfl rfl rfl (by decide +kernel)
theorem w_c35 : (Jvm.Cond.code ⟨"java/lang/Math", "min", "(II)I"⟩ jdk_29_method_69_code 2 (some .int)).before args0 about1 = true := code_word (m := ⟨19, 2⟩) (meth := k19m2) (c := k19c2) (by decide +kernel) rfl rfl rfl (by decide +kernel)
theorem w_c36 : (Jvm.Cond.code ⟨"java/lang/StringBuilder", "toString", "()Ljava/lang/String;"⟩ jdk_67_method_42_code 1 (some (.object "java/lang/String"))).before args0 about1 = true := code_word (m := ⟨24, 3⟩) (meth := k24m3) (c := k24c3) (by decide +kernel) rfl rfl rfl (by decide +kernel)
theorem w_c37 : (Jvm.Cond.code ⟨"java/lang/String", "<init>", "(Ljava/lang/StringBuilder;)V"⟩ jdk_42_method_53_code 2 none).before args0 about1 = true := code_word (m := ⟨27, 2⟩) (meth := k27m2) (c := k27c2) (by decide +kernel) rfl rfl rfl (by decide +kernel)
theorem w_c38 : (Jvm.Cond.code ⟨"java/lang/String", "<init>", "(Ljava/lang/AbstractStringBuilder;Ljava/lang/Void;)V"⟩ jdk_42_method_150_code 5 none).before args0 about1 = true := code_word (m := ⟨27, 7⟩) (meth := k27m7) (c := k27c7) (by decide +kernel) rfl rfl rfl (by decide +kernel)
theorem w_c39 : (Jvm.Cond.code ⟨"java/lang/AbstractStringBuilder", "getValue", "()[B"⟩ jdk_68_method_64_code 1 (some (.array .byte))).before args0 about1 = true := code_word (m := ⟨22, 7⟩) (meth := k22m7) (c := k22c7) (by decide +kernel) rfl rfl rfl (by decide +kernel)
theorem w_c40 : (Jvm.Cond.code ⟨"java/lang/StringBuilder", "length", "()I"⟩ jdk_67_method_93_code 1 (some .int)).before args0 about1 = true := code_word (m := ⟨24, 4⟩) (meth := k24m4) (c := k24c4) (by decide +kernel) rfl rfl rfl (by decide +kernel)
theorem w_c41 : (Jvm.Cond.code ⟨"java/lang/AbstractStringBuilder", "length", "()I"⟩ jdk_68_method_6_code 1 (some .int)).before args0 about1 = true := code_word (m := ⟨22, 2⟩) (meth := k22m2) (c := k22c2) (by decide +kernel) rfl rfl rfl (by decide +kernel)
theorem w_c42 : (Jvm.Cond.code ⟨"java/util/Arrays", "copyOfRange", "([BII)[B"⟩ jdk_65_method_132_code 3 (some (.array .byte))).before args0 about1 = true := code_word (m := ⟨32, 5⟩) (meth := k32m5) (c := k32c5) (by decide +kernel) rfl rfl rfl (by decide +kernel)
theorem w_c43 : (Jvm.Cond.code ⟨"java/util/Arrays", "copyOfRangeByte", "([BII)[B"⟩ jdk_65_method_133_code 5 (some (.array .byte))).before args0 about1 = true := code_word (m := ⟨32, 6⟩) (meth := k32m6) (c := k32c6) (by decide +kernel) rfl rfl rfl (by decide +kernel)
theorem w_c44 : (Jvm.Cond.code ⟨"java/util/Arrays", "checkLength", "(II)V"⟩ jdk_65_method_131_code 2 none).before args0 about1 = true := code_word (m := ⟨32, 4⟩) (meth := k32m4) (c := k32c4) (by decide +kernel) rfl rfl rfl (by decide +kernel)
theorem w_c45 : (Jvm.Cond.code ⟨"java/lang/String", "<init>", "([C)V"⟩ jdk_42_method_3_code 2 none).before args0 about1 = true := code_word (m := ⟨27, 1⟩) (meth := k27m1) (c := k27c1) (by decide +kernel) rfl rfl rfl (by decide +kernel)
theorem w_c46 : (Jvm.Cond.code ⟨"java/lang/String", "<init>", "([CIILjava/lang/Void;)V"⟩ jdk_42_method_149_code 6 none).before args0 about1 = true := code_word (m := ⟨27, 6⟩) (meth := k27m6) (c := k27c6) (by decide +kernel) rfl rfl rfl (by decide +kernel)
theorem w_c47 : (Jvm.Cond.code ⟨"java/lang/StringUTF16", "compress", "([CII)[B"⟩ jdk_52_method_16_code 6 (some (.array .byte))).before args0 about1 = true := code_word (m := ⟨33, 2⟩) (meth := k33m2) (c := k33c2) (by decide +kernel) rfl rfl rfl (by decide +kernel)
theorem w_c48 : (Jvm.Cond.code ⟨"java/lang/StringUTF16", "compress", "([CI[BII)I"⟩ jdk_52_method_21_code 7 (some .int)).before args0 about1 = true := code_word (m := ⟨33, 3⟩) (meth := k33m3) (c := k33c3) (by decide +kernel) rfl rfl rfl (by decide +kernel)
theorem w_c49 : (Jvm.Cond.code ⟨"java/lang/StringUTF16", "coderFromArrayLen", "([BI)B"⟩ jdk_52_method_15_code 2 (some .byte)).before args0 about1 = true := code_word (m := ⟨33, 1⟩) (meth := k33m1) (c := k33c1) (by decide +kernel) rfl rfl rfl (by decide +kernel)
theorem w_c50 : (Jvm.Cond.code ⟨"java/lang/String", "equals", "(Ljava/lang/Object;)Z"⟩ jdk_42_method_66_code 3 (some .boolean)).before args0 about1 = true := code_word (m := ⟨27, 4⟩) (meth := k27m4) (c := k27c4) (by decide +kernel) rfl rfl rfl (by decide +kernel)
theorem w_c51 : (Jvm.Cond.code ⟨"java/lang/StringLatin1", "equals", "([B[B)Z"⟩ jdk_43_method_13_code 3 (some .boolean)).before args0 about1 = true := code_word (m := ⟨34, 1⟩) (meth := k34m1) (c := k34c1) (by decide +kernel) rfl rfl rfl (by decide +kernel)
theorem w_c52 : (Jvm.Cond.code ⟨"java/util/ArrayList", "toArray", "()[Ljava/lang/Object;"⟩ jdk_38_method_16_code 1 (some (.array (.object "java/lang/Object")))).before args0 about1 = true := code_word (m := ⟨13, 4⟩) (meth := k13m4) (c := k13c4) (by decide +kernel) rfl rfl rfl (by decide +kernel)
theorem w_c53 : (Jvm.Cond.code ⟨"java/util/Arrays", "copyOf", "([Ljava/lang/Object;I)[Ljava/lang/Object;"⟩ jdk_65_method_119_code 2 (some (.array (.object "java/lang/Object")))).before args0 about1 = true := code_word (m := ⟨32, 1⟩) (meth := k32m1) (c := k32c1) (by decide +kernel) rfl rfl rfl (by decide +kernel)
theorem w_c54 : (Jvm.Cond.code ⟨"java/util/Arrays", "copyOf", "([Ljava/lang/Object;ILjava/lang/Class;)[Ljava/lang/Object;"⟩ jdk_65_method_120_code 4 (some (.array (.object "java/lang/Object")))).before args0 about1 = true := code_word (m := ⟨32, 2⟩) (meth := k32m2) (c := k32c2) (by decide +kernel) rfl rfl rfl (by decide +kernel)
theorem w_c55 : (Jvm.Cond.code ⟨"java/util/List", "of", "([Ljava/lang/Object;)Ljava/util/List;"⟩ jdk_40_method_47_code 2 (some (.object "java/util/List"))).before args0 about1 = true := code_word (m := ⟨8, 2⟩) (meth := k8m2) (c := k8c2) (by decide +kernel) rfl rfl rfl (by decide +kernel)
theorem w_c56 : (Jvm.Cond.code ⟨"java/util/ImmutableCollections", "listFromArray", "([Ljava/lang/Object;)Ljava/util/List;"⟩ jdk_56_method_4_code 3 (some (.object "java/util/List"))).before args0 about1 = true := code_word (m := ⟨14, 2⟩) (meth := k14m2) (c := k14c2) (by decide +kernel) rfl rfl rfl (by decide +kernel)
theorem w_c57 : (Jvm.Cond.code ⟨"java/util/Objects", "requireNonNull", "(Ljava/lang/Object;)Ljava/lang/Object;"⟩ jdk_31_method_10_code 1 (some (.object "java/lang/Object"))).before args0 about1 = true := code_word (m := ⟨35, 1⟩) (meth := k35m1) (c := k35c1) (by decide +kernel) rfl rfl rfl (by decide +kernel)
theorem w_c58 : (Jvm.Cond.code ⟨"java/util/ImmutableCollections$ListN", "<init>", "([Ljava/lang/Object;Z)V"⟩ jdk_45_method_1_code 3 none).before args0 about1 = true := code_word (m := ⟨18, 0⟩) (meth := k18m0) (c := k18c0) (by decide +kernel) rfl rfl rfl (by decide +kernel)
theorem w_c59 : (Jvm.Cond.code ⟨"java/util/ImmutableCollections$AbstractImmutableList", "<init>", "()V"⟩ jdk_46_method_1_code 1 none).before args0 about1 = true := code_word (m := ⟨16, 0⟩) (meth := k16m0) (c := k16c0) (by decide +kernel) rfl rfl rfl (by decide +kernel)
theorem w_c60 : (Jvm.Cond.code ⟨"java/util/ImmutableCollections$AbstractImmutableCollection", "<init>", "()V"⟩ jdk_47_method_1_code 1 none).before args0 about1 = true := code_word (m := ⟨15, 0⟩) (meth := k15m0) (c := k15c0) (by decide +kernel) rfl rfl rfl (by decide +kernel)
theorem w_c61 : (Jvm.Cond.code ⟨"java/util/ImmutableCollections$List12", "<init>", "(Ljava/lang/Object;Ljava/lang/Object;)V"⟩ jdk_44_method_2_code 3 none).before args0 about1 = true := code_word (m := ⟨17, 1⟩) (meth := k17m1) (c := k17c1) (by decide +kernel) rfl rfl rfl (by decide +kernel)
theorem w_c62 : (Jvm.Cond.code ⟨"java/util/ImmutableCollections$List12", "size", "()I"⟩ jdk_44_method_3_code 1 (some .int)).before args0 about1 = true := code_word (m := ⟨17, 2⟩) (meth := k17m2) (c := k17c2) (by decide +kernel) rfl rfl rfl (by decide +kernel)
theorem w_c63 : (Jvm.Cond.code ⟨"java/util/ImmutableCollections$List12", "<init>", "(Ljava/lang/Object;)V"⟩ jdk_44_method_1_code 2 none).before args0 about1 = true := code_word (m := ⟨17, 0⟩) (meth := k17m0) (c := k17c0) (by decide +kernel) rfl rfl rfl (by decide +kernel)
def codes1 : List Jvm.Cond := [Jvm.Cond.code x code maxLocals ret, .code ⟨"java/util/ArrayList", "<init>", "()V"⟩ jdk_38_method_2_code 1 none, .code ⟨"java/util/AbstractList", "<init>", "()V"⟩ jdk_39_method_1_code 1 none, .code ⟨"java/util/AbstractCollection", "<init>", "()V"⟩ jdk_22_method_1_code 1 none, .code ⟨"java/lang/Object", "<init>", "()V"⟩ object_method_1_code 1 none, .code ⟨"com/example/interplay/interplay/history/Group", "<init>", "(Ljava/util/List;)V"⟩ prog_29_method_1_code 2 none, .code ⟨"java/util/List", "copyOf", "(Ljava/util/Collection;)Ljava/util/List;"⟩ jdk_40_method_48_code 1 (some (.object "java/util/List")), .code ⟨"java/util/ImmutableCollections", "listCopy", "(Ljava/util/Collection;)Ljava/util/List;"⟩ jdk_56_method_3_code 2 (some (.object "java/util/List")), .code ⟨"java/util/ArrayList", "isEmpty", "()Z"⟩ jdk_38_method_9_code 1 (some .boolean), .code ⟨"java/util/List", "of", "()Ljava/util/List;"⟩ jdk_40_method_36_code 0 (some (.object "java/util/List")), .code ⟨"java/util/ArrayList", "add", "(Ljava/lang/Object;)Z"⟩ jdk_38_method_25_code 2 (some .boolean), .code ⟨"java/util/ArrayList", "add", "(Ljava/lang/Object;[Ljava/lang/Object;I)V"⟩ jdk_38_method_24_code 4 none, .code ⟨"java/util/ArrayList", "grow", "()[Ljava/lang/Object;"⟩ jdk_38_method_7_code 1 (some (.array (.object "java/lang/Object"))), .code ⟨"java/util/ArrayList", "grow", "(I)[Ljava/lang/Object;"⟩ jdk_38_method_6_code 4 (some (.array (.object "java/lang/Object"))), .code ⟨"java/lang/Math", "max", "(II)I"⟩ jdk_29_method_65_code 2 (some .int), .code ⟨"com/example/interplay/interplay/history/Group", "toString", "()Ljava/lang/String;"⟩ prog_29_method_6_code 1 (some (.object "java/lang/String")), .code ⟨"java/lang/StringBuilder", "<init>", "()V"⟩ jdk_67_method_1_code 1 none, .code ⟨"java/lang/AbstractStringBuilder", "<init>", "(I)V"⟩ jdk_68_method_2_code 2 none, .code ⟨"java/lang/StringBuilder", "append", "(Ljava/lang/String;)Ljava/lang/StringBuilder;"⟩ jdk_67_method_7_code 2 (some (.object "java/lang/StringBuilder")), .code ⟨"java/lang/AbstractStringBuilder", "append", "(Ljava/lang/String;)Ljava/lang/AbstractStringBuilder;"⟩ jdk_68_method_22_code 3 (some (.object "java/lang/AbstractStringBuilder")), .code ⟨"java/lang/String", "length", "()I"⟩ jdk_42_method_54_code 1 (some .int), .code ⟨"java/lang/String", "coder", "()B"⟩ jdk_42_method_152_code 1 (some .byte), .code ⟨"java/lang/AbstractStringBuilder", "ensureCapacityInternal", "(I)V"⟩ jdk_68_method_9_code 3 none, .code ⟨"java/lang/AbstractStringBuilder", "putStringAt", "(ILjava/lang/String;)V"⟩ jdk_68_method_73_code 3 none, .code ⟨"java/lang/AbstractStringBuilder", "inflateIfNeededFor", "(Ljava/lang/String;)V"⟩ jdk_68_method_71_code 2 none, .code ⟨"java/lang/String", "getBytes", "([BIB)V"⟩ jdk_42_method_147_code 4 none, .code ⟨"java/util/ImmutableCollections$ListN", "size", "()I"⟩ jdk_45_method_3_code 1 (some .int), .code ⟨"java/lang/StringBuilder", "append", "(I)Ljava/lang/StringBuilder;"⟩ jdk_67_method_15_code 2 (some (.object "java/lang/StringBuilder")), .code ⟨"java/lang/AbstractStringBuilder", "append", "(I)Ljava/lang/AbstractStringBuilder;"⟩ jdk_68_method_32_code 4 (some (.object "java/lang/AbstractStringBuilder")), .code ⟨"java/lang/Integer", "stringSize", "(I)I"⟩ jdk_33_method_13_code 4 (some .int), .code ⟨"java/lang/AbstractStringBuilder", "isLatin1", "()Z"⟩ jdk_68_method_68_code 1 (some .boolean), .code ⟨"java/lang/Integer", "getChars", "(II[B)I"⟩ jdk_33_method_12_code 7 (some .int), .code ⟨"java/lang/AbstractStringBuilder", "newCapacity", "(I)I"⟩ jdk_68_method_10_code 6 (some .int), .code ⟨"jdk/internal/util/ArraysSupport", "newLength", "(III)I"⟩ jdk_48_method_27_code 4 (some .int), .code ⟨"java/util/Arrays", "copyOf", "([BI)[B"⟩ jdk_65_method_121_code 3 (some (.array .byte)), .code ⟨"java/lang/Math", "min", "(II)I"⟩ jdk_29_method_69_code 2 (some .int), .code ⟨"java/lang/StringBuilder", "toString", "()Ljava/lang/String;"⟩ jdk_67_method_42_code 1 (some (.object "java/lang/String")), .code ⟨"java/lang/String", "<init>", "(Ljava/lang/StringBuilder;)V"⟩ jdk_42_method_53_code 2 none, .code ⟨"java/lang/String", "<init>", "(Ljava/lang/AbstractStringBuilder;Ljava/lang/Void;)V"⟩ jdk_42_method_150_code 5 none, .code ⟨"java/lang/AbstractStringBuilder", "getValue", "()[B"⟩ jdk_68_method_64_code 1 (some (.array .byte)), .code ⟨"java/lang/StringBuilder", "length", "()I"⟩ jdk_67_method_93_code 1 (some .int), .code ⟨"java/lang/AbstractStringBuilder", "length", "()I"⟩ jdk_68_method_6_code 1 (some .int), .code ⟨"java/util/Arrays", "copyOfRange", "([BII)[B"⟩ jdk_65_method_132_code 3 (some (.array .byte)), .code ⟨"java/util/Arrays", "copyOfRangeByte", "([BII)[B"⟩ jdk_65_method_133_code 5 (some (.array .byte)), .code ⟨"java/util/Arrays", "checkLength", "(II)V"⟩ jdk_65_method_131_code 2 none, .code ⟨"java/lang/String", "<init>", "([C)V"⟩ jdk_42_method_3_code 2 none, .code ⟨"java/lang/String", "<init>", "([CIILjava/lang/Void;)V"⟩ jdk_42_method_149_code 6 none, .code ⟨"java/lang/StringUTF16", "compress", "([CII)[B"⟩ jdk_52_method_16_code 6 (some (.array .byte)), .code ⟨"java/lang/StringUTF16", "compress", "([CI[BII)I"⟩ jdk_52_method_21_code 7 (some .int), .code ⟨"java/lang/StringUTF16", "coderFromArrayLen", "([BI)B"⟩ jdk_52_method_15_code 2 (some .byte), .code ⟨"java/lang/String", "equals", "(Ljava/lang/Object;)Z"⟩ jdk_42_method_66_code 3 (some .boolean), .code ⟨"java/lang/StringLatin1", "equals", "([B[B)Z"⟩ jdk_43_method_13_code 3 (some .boolean), .code ⟨"java/util/ArrayList", "toArray", "()[Ljava/lang/Object;"⟩ jdk_38_method_16_code 1 (some (.array (.object "java/lang/Object"))), .code ⟨"java/util/Arrays", "copyOf", "([Ljava/lang/Object;I)[Ljava/lang/Object;"⟩ jdk_65_method_119_code 2 (some (.array (.object "java/lang/Object"))), .code ⟨"java/util/Arrays", "copyOf", "([Ljava/lang/Object;ILjava/lang/Class;)[Ljava/lang/Object;"⟩ jdk_65_method_120_code 4 (some (.array (.object "java/lang/Object"))), .code ⟨"java/util/List", "of", "([Ljava/lang/Object;)Ljava/util/List;"⟩ jdk_40_method_47_code 2 (some (.object "java/util/List")), .code ⟨"java/util/ImmutableCollections", "listFromArray", "([Ljava/lang/Object;)Ljava/util/List;"⟩ jdk_56_method_4_code 3 (some (.object "java/util/List")), .code ⟨"java/util/Objects", "requireNonNull", "(Ljava/lang/Object;)Ljava/lang/Object;"⟩ jdk_31_method_10_code 1 (some (.object "java/lang/Object")), .code ⟨"java/util/ImmutableCollections$ListN", "<init>", "([Ljava/lang/Object;Z)V"⟩ jdk_45_method_1_code 3 none, .code ⟨"java/util/ImmutableCollections$AbstractImmutableList", "<init>", "()V"⟩ jdk_46_method_1_code 1 none, .code ⟨"java/util/ImmutableCollections$AbstractImmutableCollection", "<init>", "()V"⟩ jdk_47_method_1_code 1 none, .code ⟨"java/util/ImmutableCollections$List12", "<init>", "(Ljava/lang/Object;Ljava/lang/Object;)V"⟩ jdk_44_method_2_code 3 none, .code ⟨"java/util/ImmutableCollections$List12", "size", "()I"⟩ jdk_44_method_3_code 1 (some .int), .code ⟨"java/util/ImmutableCollections$List12", "<init>", "(Ljava/lang/Object;)V"⟩ jdk_44_method_1_code 2 none]
theorem codes_eq : words1.filter isCode = codes1 := rfl
theorem w_codes : ∀ c ∈ words1.filter isCode, c.before args0 about1 = true := by
  rw [codes_eq]
  intro c hc
  simp only [codes1, List.mem_cons, List.not_mem_nil, or_false] at hc
  rcases hc with rfl | rfl | rfl | rfl | rfl | rfl | rfl | rfl | rfl | rfl | rfl | rfl | rfl | rfl | rfl | rfl | rfl | rfl | rfl | rfl | rfl | rfl | rfl | rfl | rfl | rfl | rfl | rfl | rfl | rfl | rfl | rfl | rfl | rfl | rfl | rfl | rfl | rfl | rfl | rfl | rfl | rfl | rfl | rfl | rfl | rfl | rfl | rfl | rfl | rfl | rfl | rfl | rfl | rfl | rfl | rfl | rfl | rfl | rfl | rfl | rfl | rfl | rfl | rfl
  · exact w_c0
  · exact w_c1
  · exact w_c2
  · exact w_c3
  · exact w_c4
  · exact w_c5
  · exact w_c6
  · exact w_c7
  · exact w_c8
  · exact w_c9
  · exact w_c10
  · exact w_c11
  · exact w_c12
  · exact w_c13
  · exact w_c14
  · exact w_c15
  · exact w_c16
  · exact w_c17
  · exact w_c18
  · exact w_c19
  · exact w_c20
  · exact w_c21
  · exact w_c22
  · exact w_c23
  · exact w_c24
  · exact w_c25
  · exact w_c26
  · exact w_c27
  · exact w_c28
  · exact w_c29
  · exact w_c30
  · exact w_c31
  · exact w_c32
  · exact w_c33
  · exact w_c34
  · exact w_c35
  · exact w_c36
  · exact w_c37
  · exact w_c38
  · exact w_c39
  · exact w_c40
  · exact w_c41
  · exact w_c42
  · exact w_c43
  · exact w_c44
  · exact w_c45
  · exact w_c46
  · exact w_c47
  · exact w_c48
  · exact w_c49
  · exact w_c50
  · exact w_c51
  · exact w_c52
  · exact w_c53
  · exact w_c54
  · exact w_c55
  · exact w_c56
  · exact w_c57
  · exact w_c58
  · exact w_c59
  · exact w_c60
  · exact w_c61
  · exact w_c62
  · exact w_c63
theorem w_t1 : (words1.take 24).all (fun c => isCode c || c.before args0 about1) = true := by decide +kernel
theorem w_t2 : ((words1.drop 24).take 24).all (fun c => isCode c || c.before args0 about1) = true := by decide +kernel
theorem w_t3 : (((words1.drop 24).drop 24).take 24).all (fun c => isCode c || c.before args0 about1) = true := by decide +kernel
theorem w_t4 : ((((words1.drop 24).drop 24).drop 24).take 24).all (fun c => isCode c || c.before args0 about1) = true := by decide +kernel
theorem w_t5 : (((((words1.drop 24).drop 24).drop 24).drop 24).take 24).all (fun c => isCode c || c.before args0 about1) = true := by decide +kernel
theorem w_t6 : ((((((words1.drop 24).drop 24).drop 24).drop 24).drop 24).take 24).all (fun c => isCode c || c.before args0 about1) = true := by decide +kernel
theorem w_t7 : (((((((words1.drop 24).drop 24).drop 24).drop 24).drop 24).drop 24).take 24).all (fun c => isCode c || c.before args0 about1) = true := by decide +kernel
theorem w_t8 : ((((((((words1.drop 24).drop 24).drop 24).drop 24).drop 24).drop 24).drop 24).take 24).all (fun c => isCode c || c.before args0 about1) = true := by decide +kernel
theorem w_t9 : (((((((((words1.drop 24).drop 24).drop 24).drop 24).drop 24).drop 24).drop 24).drop 24).take 24).all (fun c => isCode c || c.before args0 about1) = true := by decide +kernel
theorem w_t10 : ((((((((((words1.drop 24).drop 24).drop 24).drop 24).drop 24).drop 24).drop 24).drop 24).drop 24).take 24).all (fun c => isCode c || c.before args0 about1) = true := by decide +kernel
theorem w_t11 : (((((((((((words1.drop 24).drop 24).drop 24).drop 24).drop 24).drop 24).drop 24).drop 24).drop 24).drop 24).take 24).all (fun c => isCode c || c.before args0 about1) = true := by decide +kernel
theorem w_t12 : ((((((((((((words1.drop 24).drop 24).drop 24).drop 24).drop 24).drop 24).drop 24).drop 24).drop 24).drop 24).drop 24).take 24).all (fun c => isCode c || c.before args0 about1) = true := by decide +kernel
theorem w_t13 : (((((((((((((words1.drop 24).drop 24).drop 24).drop 24).drop 24).drop 24).drop 24).drop 24).drop 24).drop 24).drop 24).drop 24).take 24).all (fun c => isCode c || c.before args0 about1) = true := by decide +kernel
theorem w_t14 : ((((((((((((((words1.drop 24).drop 24).drop 24).drop 24).drop 24).drop 24).drop 24).drop 24).drop 24).drop 24).drop 24).drop 24).drop 24).take 24).all (fun c => isCode c || c.before args0 about1) = true := by decide +kernel
theorem w_t15 : (((((((((((((((words1.drop 24).drop 24).drop 24).drop 24).drop 24).drop 24).drop 24).drop 24).drop 24).drop 24).drop 24).drop 24).drop 24).drop 24).take 24).all (fun c => isCode c || c.before args0 about1) = true := by decide +kernel
theorem w_t16 : (((((((((((((((words1.drop 24).drop 24).drop 24).drop 24).drop 24).drop 24).drop 24).drop 24).drop 24).drop 24).drop 24).drop 24).drop 24).drop 24).drop 24).all (fun c => isCode c || c.before args0 about1) = true := by decide +kernel
theorem w_tables : (allAtoms (Jvm.Cond.code x code maxLocals ret :: tables_1)).before args0 about1 = true := by
  rw [allAtoms_all]
  show words1.all (fun c => c.before args0 about1) = true
  refine all_split ?_ w_codes
  rw [← List.take_append_drop 24 words1, List.all_append, w_t1, ← List.take_append_drop 24 (words1.drop 24), List.all_append, w_t2, ← List.take_append_drop 24 ((words1.drop 24).drop 24), List.all_append, w_t3, ← List.take_append_drop 24 (((words1.drop 24).drop 24).drop 24), List.all_append, w_t4, ← List.take_append_drop 24 ((((words1.drop 24).drop 24).drop 24).drop 24), List.all_append, w_t5, ← List.take_append_drop 24 (((((words1.drop 24).drop 24).drop 24).drop 24).drop 24), List.all_append, w_t6, ← List.take_append_drop 24 ((((((words1.drop 24).drop 24).drop 24).drop 24).drop 24).drop 24), List.all_append, w_t7, ← List.take_append_drop 24 (((((((words1.drop 24).drop 24).drop 24).drop 24).drop 24).drop 24).drop 24), List.all_append, w_t8, ← List.take_append_drop 24 ((((((((words1.drop 24).drop 24).drop 24).drop 24).drop 24).drop 24).drop 24).drop 24), List.all_append, w_t9, ← List.take_append_drop 24 (((((((((words1.drop 24).drop 24).drop 24).drop 24).drop 24).drop 24).drop 24).drop 24).drop 24), List.all_append, w_t10, ← List.take_append_drop 24 ((((((((((words1.drop 24).drop 24).drop 24).drop 24).drop 24).drop 24).drop 24).drop 24).drop 24).drop 24), List.all_append, w_t11, ← List.take_append_drop 24 (((((((((((words1.drop 24).drop 24).drop 24).drop 24).drop 24).drop 24).drop 24).drop 24).drop 24).drop 24).drop 24), List.all_append, w_t12, ← List.take_append_drop 24 ((((((((((((words1.drop 24).drop 24).drop 24).drop 24).drop 24).drop 24).drop 24).drop 24).drop 24).drop 24).drop 24).drop 24), List.all_append, w_t13, ← List.take_append_drop 24 (((((((((((((words1.drop 24).drop 24).drop 24).drop 24).drop 24).drop 24).drop 24).drop 24).drop 24).drop 24).drop 24).drop 24).drop 24), List.all_append, w_t14, ← List.take_append_drop 24 ((((((((((((((words1.drop 24).drop 24).drop 24).drop 24).drop 24).drop 24).drop 24).drop 24).drop 24).drop 24).drop 24).drop 24).drop 24).drop 24), List.all_append, w_t15, w_t16]
  rfl
theorem w_rest : rest_1_c.before args0 about1 = true := by decide +kernel
theorem w_case : (Jvm.Cond.and given_1 narrow_1).before args0 about1 = true := by decide +kernel
theorem w_consts : constsHeld consts_1 about1 := Jvm.Lit.constsHeldB_iff.mp (by decide +kernel)
theorem w_applies : (headSpec (Jvm.Cond.code x code maxLocals ret :: tables_1) room_1).applies x e0.platform about1 = true :=
  (Spec.applies_iff w_frames).mpr ⟨w_running, w_runnable, w_alone, w_named, w_hears, w_ripe, w_room, w_tables⟩
theorem atStart : AtStart classFile x code maxLocals ret World_1 tables_1 room_1 Calls_1 rest_1 Pre_1 launch0 p0 e0 about1 theMethod args0 below0 :=
  ⟨lists_1, trivial, launch0.admits_env _ _ _, launch0.least_env, fairChoices_fair.cas, fairChoices_fair.clock, w_frames, w_args, w_heap, w_applies, ⟨⟨44, k44, 5, by decide +kernel, rfl, rfl, _, rfl, rfl⟩, ⟨w_consts, trivial⟩⟩, w_rest, w_case⟩
end start1
theorem witness_1 : WitnessClaimed_1 := ⟨start1.p0, start1.e0, start1.about1, start1.theMethod, start1.args0, start1.below0, start1.atStart⟩
end Jvm.Pilot.@@N@@
