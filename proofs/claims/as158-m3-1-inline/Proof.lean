import JvmDerived
import JvmDerived.Pilot.@@N@@Statement
import JvmDerived.Pilot.@@N@@Code
set_option linter.unusedVariables false
set_option linter.unusedSimpArgs false
namespace Jvm.RoadKit
open Sem ClassFile Op Lib Jvm.Stand Jvm.Free Jvm.LawKit
section New
variable {p : Program} {l : Launch} {e : Env} {R : Room} {s : State} {m : MethodId} {args : Array Value} {below : List Frame} {meth : Method} {c : Code} {T : State} {locs : List Loc} {cells slots : Nat}
theorem retI (X : Stand p l e R s m args below meth c T locs cells slots) (hx : p.tables.exec = Jvm.exec) {pc : Nat} {Ls : Array Slot} {z : Int32} {rest : List Value} (hret : meth.sig.returnType = some .int) (hd : decode c.code pc = .ok (.ireturn, 1)) {fs : List Frame}
    (hl : ∀ (f : JFrame) (acts : List Action), f.method = m → f.locked = none → f.entered = [] → (doReturn e (T.setTop f) acts (some (.int z))).1 = T.setFrames fs) : Steps p.tables e below (T.setTop (mkF m pc Ls (.int z :: rest))) (T.setFrames fs) := by
  have hm' : T.vm.method? m = some meth := X.method'
  have hn : narrow .int (.int z) = .int z := rfl
  show Steps p.tables e below (T.setTop { method := m, pc := pc, locals := Ls, stack := _ :: rest, locked := none }) _
  jvm_step X.here [X.here.top, hx, hd, hm', hret, hn]
  first | (intro acts; rw [hl _ acts rfl rfl rfl]) | rw [hl _ _ rfl rfl rfl]
  exact Steps.refl _
end New
end Jvm.RoadKit
@@BLOCK:TracedD.lean.txt@@
namespace Jvm.Pilot.@@N@@
open Jvm Jvm.ClassFile Sem Op Lib Jvm.Free Jvm.Stand Jvm.LawKit Jvm.RoadKit Bundle Jvm.Pilot.@@N@@.Jvm.D
set_option maxRecDepth 65536
set_option maxHeartbeats 40000000
section OwnKit
variable {p : Program} {l : Launch} {e : Env} {R : Room} {s : State} {m : MethodId} {args : Array Value} {below : List Frame} {meth : Method} {c : Code} {T T' U Z : State} {locs : List Loc} {cells slots : Nat} {h h' h0 : Heap} {a b : Addr} {n0 : Nat}
abbrev HW (Z : State) (a0 : Array Value) : Prop := ∀ d ∈ tables_1, d.before a0 Z = true
abbrev vI (x : Int32) : Slot := .val (.int x)
abbrev vJ (x : Int64) : Slot := .val (.long x)
abbrev vR (x : Addr) : Slot := .val (.ref x)
abbrev vN : Slot := .val .null
abbrev vU : Slot := .unset
abbrev vS : Slot := .second
theorem lb {a b : Nat} (q : Nat.ble a b = true) : a ≤ b := Nat.le_of_ble_eq_true q
/-- from T with the frame f on top the invocation comes to its end, and P holds there -/
def own_Fin (tb : Tables) (e : Env) (below : List Frame) (P : State → Outcome → Prop) (T : State) (f : JFrame) : Prop := ∃ s₂ o, Steps tb e below (T.setTop f) s₂ ∧ s₂.status = .running ∧ Ended s₂ below o ∧ P s₂ o
theorem own_go {tb : Tables} {P : State → Outcome → Prop} {g g' : JFrame} (k : ∀ t, Steps tb e below (T'.setTop g') t → Steps tb e below (T.setTop g) t) (q : own_Fin tb e below P T' g') : own_Fin tb e below P T g := by
  obtain ⟨s₂, o, a, r⟩ := q; exact ⟨s₂, o, k _ a, r⟩
theorem own_to {tb : Tables} {P : State → Outcome → Prop} {g g' : JFrame} (k : Steps tb e below (T.setTop g) (T'.setTop g')) (q : own_Fin tb e below P T' g') : own_Fin tb e below P T g := by
  obtain ⟨s₂, o, a, r⟩ := q; exact ⟨s₂, o, k.trans a, r⟩
theorem og {tb : Tables} {P : State → Outcome → Prop} {g : JFrame} (T' : State) (g' : JFrame) (k : ∀ t, Steps tb e below (T'.setTop g') t → Steps tb e below (T.setTop g) t) (q : own_Fin tb e below P T' g') : own_Fin tb e below P T g := own_go k q
theorem ot {tb : Tables} {P : State → Outcome → Prop} {g : JFrame} (T' : State) (g' : JFrame) (k : Steps tb e below (T.setTop g) (T'.setTop g')) (q : own_Fin tb e below P T' g') : own_Fin tb e below P T g := own_to k q
def own_PN (s : State) (Q : Option Value → Heap → List Loc → Prop) (rc rs : Nat) : State → Outcome → Prop := fun U o => ∃ v L, o = .returned v ∧ Q v U.heap L ∧ FrameEnd s o U L rc rs
/-- a body's contract: from the heap h0 it returns, and Q says what -/
def own_CN (l : Launch) (Z : State) (y : MethodName) (bytes : ByteArray) (maxL : Nat) (ret : Option FieldType) (ws : List Jvm.Cond) (rm : Room) (as : Array Value) (h0 : Heap) (Q : Option Value → Heap → List Loc → Prop) : Prop :=
  MetFree l y (head1 (Jvm.Cond.code y bytes maxL ret :: ws) rm) (fun a U => a = as ∧ Z.Warmed39 U.vm ∧ U.heap = h0) (fun _ _ _ _ _ => True) (fun _ U o U' => ∃ v L, o = .returned v ∧ Q v U'.heap L ∧ FrameEnd U o U' L rm.cells rm.slots)
theorem own_entryN {y : MethodName} {bytes : ByteArray} {maxL : Nat} {ret : Option FieldType} {ws : List Jvm.Cond} {rm : Room} {as : Array Value} {Q : Option Value → Heap → List Loc → Prop} (hpn : plainFor y = true)
    (body : ∀ (p : Program) (e : Env) (s : State) (m : MethodId) (below : List Frame) (meth : Method) (c : Code) (s₁ : State), p.tables.exec = Jvm.exec → c.code = bytes → c.maxLocals = maxL → s.vm.findClass y.cls = some m.cls → meth.name = y.name → meth.sig.returnType = ret → meth.locks = false → Z.Warmed39 s.vm → s.heap = h0 →
      Stand p l e rm s m as below meth c s₁ [] 0 0 → s₁.heap = h0 → own_Fin p.tables e below (own_PN s Q rm.cells rm.slots) s₁ (entryFrame m as maxL)) : own_CN l Z y bytes maxL ret ws rm as h0 Q := by
  refine MetFree.of_bodySF hpn hisR ?_
  intro p e s m args below meth c s₁ Bd hml0 hP hK
  obtain ⟨rfl, hZ, hh⟩ := hP
  exact body p e s m below meth c s₁ Bd.exec Bd.bytes hml0 (findClass_of_methodNamed Bd.named) (name_of_methodNamed Bd.named Bd.method).1 Bd.returns Bd.notSynchronized hZ hh (Stand.of_body Bd) (by rw [← hh, Bd.state]; rfl)
section Calls
variable {a0 : Array Value} {own C D : String} {index maxL W : Nat} {y : MethodName} {bytes : ByteArray} {ret : Option FieldType} {rm : Room} {Q : Option Value → Heap → List Loc → Prop} {g : JFrame} {argsL rest : List Value}
def own_nm (a W maxL : Nat) (rm R : Room) (cells slots : Nat) : Bool := Nat.ble a W && (Nat.ble (rm.frames + 1) R.frames && (Nat.ble (W + (maxL + 11) + rm.locals) R.locals && (Nat.ble (cells + rm.cells) R.cells && Nat.ble (slots + rm.slots) R.slots)))
theorem own_nm_e {a W maxL : Nat} {rm R : Room} {cells slots : Nat} (q : own_nm a W maxL rm R cells slots = true) : a ≤ W ∧ rm.frames + 1 ≤ R.frames ∧ W + (maxL + 11) + rm.locals ≤ R.locals ∧ cells + rm.cells ≤ R.cells ∧ slots + rm.slots ≤ R.slots := by
  simpa [own_nm, Nat.ble_eq] using q
theorem own_nr {meth : Method} {t : FieldType} {v : Option Value} (q : meth.sig.returnType = some t) : meth.sig.returnType = none → v = none := fun h => by rw [q] at h; cases h
theorem own_vc (X : Stand p l e R s m args below meth c T locs cells slots) (hx : p.tables.exec = Jvm.exec) (hZ : Z.Warmed39 s.vm) (hown : s.vm.findClass own = some m.cls) (w1 : (Jvm.Cond.methodLink own index y).before a0 Z = true) (w2 : (Jvm.Cond.declares y).before a0 Z = true) (w3 : (Jvm.Cond.selects C y y).before a0 Z = true) (w4 : (Jvm.Cond.instanceMethod y).before a0 Z = true) (E : Exa Z h a C)
    (hM : own_CN l Z y bytes maxL ret [] rm (.ref a :: argsL).toArray h Q) (wc : (Jvm.Cond.code y bytes maxL ret).before a0 Z = true) (wz : (Jvm.Cond.initialized y.cls).before a0 Z = true) (eT : T.heap = h) (hg : g.method = m) (hsize : g.locals.size = c.maxLocals) (hlen : ∀ sig, parseMethodDescriptor y.desc = some sig → argsL.length = sig.parameters.length) (hs : g.stack = argsL.reverse ++ .ref a :: rest)
    (hd : decode c.code g.pc = .ok (.invokevirtual index, 3)) (nq : own_nm (2 * g.monitorRoom + (rest.map fun v => v.category).sum) W maxL rm R cells slots = true) (hy : y.cls ≠ "java/lang/invoke/MethodHandle" ∧ y.cls ≠ "java/lang/invoke/VarHandle" := by decide) :
    ∃ v T' L, Stand p l e R s m args below meth c T' (locs ++ L) (cells + rm.cells) (slots + rm.slots) ∧ Q v T'.heap L ∧ Steps p.tables e below (T.setTop g) (T'.setTop { g with pc := g.pc + 3, stack := v.toList ++ rest }) := by
  obtain ⟨hW, hf, hl, hc, hsl⟩ := own_nm_e nq
  obtain ⟨cB, kB, q1, q2, q3⟩ := isOf hZ eT E
  obtain ⟨v, vm1, ⟨T', L', c', s'⟩, -, X', ⟨L, hQ, l1, l2, l3⟩, st⟩ := X.virtualBack hx (y := y) (z := y) hown (mvT hZ w1) (mvT hZ w2) (notFace_of_selects (args := #[]) (mvT hZ w3)) (mvT hZ w3) (mvT hZ w4) hy (backOf (W := W) hM hZ wc wz hf hl) q1 q3 hg hsize (Steps.refl _) hlen hs hW hd (fun _ _ => ⟨rfl, eT, hc, hsl⟩)
  dsimp only [Pt.U, Pt.locs, Pt.cells, Pt.slots] at X' l1 l2 l3 st hQ
  subst l1 l2 l3
  exact ⟨v, T', L, X', hQ, st⟩
theorem own_sc (X : Stand p l e R s m args below meth c T locs cells slots) (hx : p.tables.exec = Jvm.exec) (hZ : Z.Warmed39 s.vm) (hi : y.name = "<init>") (hown : s.vm.findClass own = some m.cls) (w1 : (Jvm.Cond.methodLink own index y).before a0 Z = true) (w4 : (Jvm.Cond.instanceMethod y).before a0 Z = true)
    (hM : own_CN l Z y bytes maxL none [] rm (.ref a :: argsL).toArray h Q) (wc : (Jvm.Cond.code y bytes maxL none).before a0 Z = true) (wz : (Jvm.Cond.initialized y.cls).before a0 Z = true) (eT : T.heap = h) (hg : g.method = m) (hsize : g.locals.size = c.maxLocals) (hlen : ∀ sig, parseMethodDescriptor y.desc = some sig → argsL.length = sig.parameters.length) (hs : g.stack = argsL.reverse ++ .ref a :: rest)
    (hd : decode c.code g.pc = .ok (.invokespecial index, 3)) (nq : own_nm (2 * g.monitorRoom + (rest.map fun v => v.category).sum) W maxL rm R cells slots = true) (hy : y.cls ≠ "java/lang/invoke/MethodHandle" ∧ y.cls ≠ "java/lang/invoke/VarHandle" := by decide) :
    ∃ v T' L, Stand p l e R s m args below meth c T' (locs ++ L) (cells + rm.cells) (slots + rm.slots) ∧ Q v T'.heap L ∧ Steps p.tables e below (T.setTop g) (T'.setTop { g with pc := g.pc + 3, stack := v.toList ++ rest }) := by
  obtain ⟨hW, hf, hl, hc, hsl⟩ := own_nm_e nq
  obtain ⟨v, vm1, ⟨T', L', c', s'⟩, -, X', ⟨L, hQ, l1, l2, l3⟩, st⟩ := X.specialBack hx (y := y) hi hown (mvT hZ w1) (mvT hZ w4) (mvT hZ wc) hy (backOf (W := W) hM hZ wc wz hf hl) hg hsize (Steps.refl _) (a := a) hlen hs hW hd (fun _ _ => ⟨rfl, eT, hc, hsl⟩)
  dsimp only [Pt.U, Pt.locs, Pt.cells, Pt.slots] at X' l1 l2 l3 st hQ
  subst l1 l2 l3
  exact ⟨v, T', L, X', hQ, st⟩
theorem own_tc (X : Stand p l e R s m args below meth c T locs cells slots) (hx : p.tables.exec = Jvm.exec) (hZ : Z.Warmed39 s.vm) (hown : s.vm.findClass own = some m.cls) (w1 : (Jvm.Cond.methodLink own index y).before a0 Z = true) (w4 : (Jvm.Cond.static y).before a0 Z = true)
    (hM : own_CN l Z y bytes maxL ret [] rm argsL.toArray h Q) (wc : (Jvm.Cond.code y bytes maxL ret).before a0 Z = true) (wz : (Jvm.Cond.initialized y.cls).before a0 Z = true) (eT : T.heap = h) (hg : g.method = m) (hsize : g.locals.size = c.maxLocals) (hlen : ∀ sig, parseMethodDescriptor y.desc = some sig → argsL.length = sig.parameters.length) (hs : g.stack = argsL.reverse ++ rest)
    (hd : decode c.code g.pc = .ok (.invokestatic index, 3)) (nq : own_nm (2 * g.monitorRoom + (rest.map fun v => v.category).sum) W maxL rm R cells slots = true) (hy : y.cls ≠ "java/lang/invoke/MethodHandle" ∧ y.cls ≠ "java/lang/invoke/VarHandle" := by decide) :
    ∃ v T' L, Stand p l e R s m args below meth c T' (locs ++ L) (cells + rm.cells) (slots + rm.slots) ∧ Q v T'.heap L ∧ Steps p.tables e below (T.setTop g) (T'.setTop { g with pc := g.pc + 3, stack := v.toList ++ rest }) := by
  obtain ⟨hW, hf, hl, hc, hsl⟩ := own_nm_e nq
  obtain ⟨v, vm1, ⟨T', L', c', s'⟩, -, X', ⟨L, hQ, l1, l2, l3⟩, st⟩ := Jvm.LawKit.callS X hx (y := y) hown (mvT hZ w1) (mvT hZ w4) (mvT hZ wz) (mvT hZ wc) hy (backOf (W := W) hM hZ wc wz hf hl) hg hsize hlen hs hW hd (fun _ _ => ⟨rfl, eT, hc, hsl⟩)
  dsimp only [Pt.U, Pt.locs, Pt.cells, Pt.slots] at X' l1 l2 l3 st hQ
  subst l1 l2 l3
  exact ⟨v, T', L, X', hQ, st _ (Steps.refl _)⟩
theorem own_sel {s : State} {args : Array Value} {y : MethodName} {C : String} (h : (Cond.selects C y y).before args s = true) (hp : s.PrivateAt y) (hi : (Cond.instanceMethod y).before args s = true) (hy : y.cls ≠ "java/lang/invoke/MethodHandle" ∧ y.cls ≠ "java/lang/invoke/VarHandle") : (Cond.selects y.cls y y).before args s = true := by
  obtain ⟨mk, meth, hn, hm, -, -⟩ := Cond.instanceMethod_spec hi
  obtain ⟨_, _, m2, -, -, q3, -, k, hk, hki⟩ := Cond.selects_spec h
  cases hn.symm.trans q3
  exact Jvm.Stand.selects_self_of_private (findClass_of_methodNamed hn) hk hki hp hi hy
theorem own_pc (X : Stand p l e R s m args below meth c T locs cells slots) (hx : p.tables.exec = Jvm.exec) (hZ : Z.Warmed39 s.vm) (hown : s.vm.findClass own = some m.cls) (w1 : (Jvm.Cond.methodLink own index y).before a0 Z = true) (w3 : (Jvm.Cond.selects D y y).before a0 Z = true) (w4 : (Jvm.Cond.instanceMethod y).before a0 Z = true) (wp : (Jvm.Cond.privateMethod y).before a0 Z = true) (E : Exa Z h a C)
    (hM : own_CN l Z y bytes maxL ret [] rm (.ref a :: argsL).toArray h Q) (wc : (Jvm.Cond.code y bytes maxL ret).before a0 Z = true) (wz : (Jvm.Cond.initialized y.cls).before a0 Z = true) (eT : T.heap = h) (hg : g.method = m) (hsize : g.locals.size = c.maxLocals) (hlen : ∀ sig, parseMethodDescriptor y.desc = some sig → argsL.length = sig.parameters.length) (hs : g.stack = argsL.reverse ++ .ref a :: rest)
    (hd : decode c.code g.pc = .ok (.invokevirtual index, 3)) (nq : own_nm (2 * g.monitorRoom + (rest.map fun v => v.category).sum) W maxL rm R cells slots = true) (hy : y.cls ≠ "java/lang/invoke/MethodHandle" ∧ y.cls ≠ "java/lang/invoke/VarHandle" := by decide) :
    ∃ v T' L, Stand p l e R s m args below meth c T' (locs ++ L) (cells + rm.cells) (slots + rm.slots) ∧ Q v T'.heap L ∧ Steps p.tables e below (T.setTop g) (T'.setTop { g with pc := g.pc + 3, stack := v.toList ++ rest }) := by
  obtain ⟨hW, hf, hl, hc, hsl⟩ := own_nm_e nq
  obtain ⟨cq, q, q'⟩ := Exa.cell E
  obtain ⟨v, vm1, ⟨T', L', c', s'⟩, -, X', ⟨L, hQ, l1, l2, l3⟩, st⟩ := X.privateBack hx (y := y) hown (mvT hZ w1) (mvT hZ w4) (own_sel (mvT hZ w3) (Cond.privateMethod_at (mvP hZ wp (args := #[]))) (mvT hZ w4) hy) (Cond.privateMethod_at (mvP hZ wp (args := #[]))) (mvT hZ wc) hy (backOf (W := W) hM hZ wc wz hf hl) hg hsize (Steps.refl _) (a := a) (by rw [eT]; exact q) q' hlen hs hW hd (fun _ _ => ⟨rfl, eT, hc, hsl⟩)
  dsimp only [Pt.U, Pt.locs, Pt.cells, Pt.slots] at X' l1 l2 l3 st hQ
  subst l1 l2 l3
  exact ⟨v, T', L, X', hQ, st⟩
end Calls
theorem own_leaveN (X : Stand p l e R s m args below meth c T locs cells slots) (hlk : meth.locks = false) {Q : Option Value → Heap → List Loc → Prop} {v : Option Value} (hv : meth.sig.returnType = none → v = none) {rc rs : Nat} (hc : cells ≤ rc) (hs : slots ≤ rs) (hQ : Q v T.heap locs) {f : JFrame}
    (st : ∀ fs, (∀ (f : JFrame) (acts : List Action), f.method = m → f.locked = none → f.entered = [] → (doReturn e (T.setTop f) acts v).1 = T.setFrames fs) → Steps p.tables e below (T.setTop f) (T.setFrames fs)) : own_Fin p.tables e below (own_PN s Q rc rs) T f := by
  obtain ⟨fs, hr, hrun, hended, hW, hsame⟩ := X.leave hv hlk
  exact ⟨_, _, st fs hr, hrun, hended, _, _, rfl, hQ, ⟨_, rfl⟩, hW, hsame.mono hc hs⟩
theorem own_w {a0 : Array Value} (hw : ∀ d ∈ tables_1, d.before a0 Z = true) (i : Nat) {d : Jvm.Cond} (q : tables_1[i]? = some d := by rfl) : d.before a0 Z = true := hw d (List.mem_of_getElem? q)
abbrev own_by (cs : List Int32) : List Value := (cs.map (fun c => c.toInt8.toInt32)).map Value.int
theorem own_bst {k : ClassId} {z j x : Int32} {cs : List Int32} {n : Nat} (X : Stand p l e R s m args below meth c T locs cells slots) (hx : p.tables.exec = Jvm.exec) (hZ : Z.Warmed39 s.vm) (eT : T.heap = h) (V : Arv Z h a k .byte z (own_by cs) (.int (0 : Int32))) (hn : cs.length = n) (hj : j.toNatClampNeg = n) (hb : ¬ j < 0 ∧ j < z)
    {g : JFrame} (hg : g.method = m) {rest : List Value} (hs : g.stack = .int x :: .int j :: .ref a :: rest) (hd : decode c.code g.pc = .ok (.bastore, 1)) :
    ∃ T' h', Stand p l e R s m args below meth c T' (locs ++ [⟨a, j.toNatClampNeg⟩]) cells slots ∧ T'.heap = h' ∧ Wr h h' a j.toNatClampNeg (.int (nar .byte x)) ∧ Arv Z h' a k .byte z (own_by (cs ++ [x])) (.int (0 : Int32)) ∧ ∀ target, Steps p.tables e below (T'.setTop { g with pc := g.pc + 1, stack := rest }) target → Steps p.tables e below (T.setTop g) target := by
  obtain ⟨cl, A, q1, q2, q3, H, G⟩ := V.pad (pad_rep (own_by cs) (.int (0 : Int32)) 1)
  obtain ⟨T', h', X', e', W, st⟩ := stB X hx hZ eT A (j := j) (inb_of q2 hb) hg hs hd
  refine ⟨T', h', X', e', W, ?_, st⟩
  have q : Arv Z h' a k .byte z ((own_by cs ++ List.replicate 1 (Value.int 0)).set n (.int (nar .byte x))) (.int (0 : Int32)) := Arv.set A q1 q2 q3 H G (fits_nar_byte x) W n hj (by simp [own_by, hn])
  have e : (own_by cs ++ List.replicate 1 (Value.int 0)).set n (.int (nar .byte x)) = own_by (cs ++ [x]) := by
    rw [List.set_append_right _ _ (by simp [own_by, hn])]; simp [own_by, hn]; rfl
  rw [e] at q; exact q
theorem own_by_app (a b : List Int32) : own_by (a ++ b) = own_by a ++ own_by b := by simp [own_by]
theorem own_la {a b : List Int32} {n m : Nat} (h : a.length = n) (k : b.length = m) : (a ++ b).length = n + m := by rw [List.length_append, h, k]
theorem own_happ {a b : List Int32} (h : ∀ c ∈ a, ¬ c < 0 ∧ ¬ (255 : Int32) < c) (k : ∀ c ∈ b, ¬ c < 0 ∧ ¬ (255 : Int32) < c) : ∀ c ∈ a ++ b, ¬ c < 0 ∧ ¬ (255 : Int32) < c := fun c hc => (List.mem_append.mp hc).elim (h c) (k c)
theorem own_hpl (a : List Int32) (h : a.all (fun c => !decide (c < 0) && !decide ((255 : Int32) < c)) = true) : ∀ c ∈ a, ¬ c < 0 ∧ ¬ (255 : Int32) < c := fun c hc => by
  have q := List.all_eq_true.mp h c hc
  simpa using q
theorem own_le4 {a : List Int32} {n : Nat} (h : a.length = n) (q : Nat.ble n 4000 = true) : a.length ≤ 4000 := h ▸ Nat.le_of_ble_eq_true q
theorem own_ltl {a : List Int32} {n i : Nat} (h : a.length = n) (q : Nat.ble (i + 1) n = true) : i < a.length := h ▸ Nat.le_of_ble_eq_true q
theorem own_osz (O : Old Z n0 h) : n0 ≤ h.size := O.1 ▸ O.2.1
theorem own_ne_old (q : a < Z.heap.size) (O : Old Z n0 h) (r : n0 ≤ b) : a ≠ b := O.ne q r
theorem own_ne_arv {a0 : Array Value} {C : String} {k : Nat} {kc : ClassId} {ty : FieldType} {z : Int32} {vs : List Value} {dv : Value} (F : Exa Z h a C) (wi : (Jvm.Cond.instantiable C k).before a0 Z = true) (G : Arv Z h b kc ty z vs dv) : a ≠ b := by
  obtain ⟨_, A, -⟩ := G; exact ne_arr F wi A
theorem own_cat {v : Value} (q : v.isRef = true) : v.category = 1 := by rcases ref_cases q with rfl | ⟨_, rfl⟩ <;> rfl
theorem own_same {s : State} {args : Array Value} {y z : MethodName} {C : String} (h : (Cond.selects C z z).before args s = true) (hi : (Cond.instanceMethod y).before args s = true) (e : z.cls = y.cls) (hy : y.cls ≠ "java/lang/invoke/MethodHandle" ∧ y.cls ≠ "java/lang/invoke/VarHandle") : (Cond.sameMethod y.cls y.cls y.name y.desc).before args s = true := by
  obtain ⟨mk, meth, hn, hm, -, -⟩ := Cond.instanceMethod_spec hi
  obtain ⟨_, _, m2, -, -, q3, -, k, hk, hki⟩ := Cond.selects_spec h
  have f1 := findClass_of_methodNamed hn
  have f2 := findClass_of_methodNamed q3
  rw [e] at f2
  have hc : m2.cls = mk.cls := Option.some.inj (f2.symm.trans f1)
  rw [hc] at hk
  have hf : s.methodFound? y.cls y.name y.desc = some mk := State.methodFound?_of_named hn hy
  simp [Cond.before, Cond.holds, Cond.value, f1, hf, hn, hk, hki]
theorem own_nf {s : State} {args : Array Value} {y z : MethodName} {C : String} (h : (Cond.selects C z z).before args s = true) (e : z.cls = y.cls) : NotFace s y := fun r0 h0 => by
  obtain ⟨_, _, m2, -, -, q3, -, k, hk, hki⟩ := Cond.selects_spec h
  have f1 := findClass_of_methodNamed h0
  have f2 := findClass_of_methodNamed q3
  rw [e] at f2
  have hc : m2.cls = r0.cls := Option.some.inj (f2.symm.trans f1)
  rw [hc] at hk
  exact ⟨k, hk, hki⟩
theorem own_nsr {a0 : Array Value} {O K : String} {n : Nat} (w : (Cond.noSuperclass O).before a0 Z = true) (wk : (Cond.instantiable K n).before a0 Z = true) (hn : O ≠ K) : NS Z O K := by
  obtain ⟨c, k, h1, h2, h3, -, -⟩ := Cond.noSuperclass_spec w
  obtain ⟨t, k2, g1, -⟩ := Cond.instantiable_spec wk
  have ne := ids_ne h1 g1 hn
  refine ⟨c, t, h1, g1, fun fuel => ?_⟩
  cases fuel with
  | zero => rfl
  | succ f => simp [Vm.isSubclassAux, ne, h2, h3]
theorem own_nsn {a0 : Array Value} {C S K : String} {n : Nat} (w : (Cond.superclass C S).before a0 Z = true) (wk : (Cond.instantiable K n).before a0 Z = true) (N : NS Z C K) (hn : C ≠ K) : ∃ c t, Z.vm.findClass C = some c ∧ Z.vm.findClass K = some t ∧ Z.vm.assignable c t = false := by
  obtain ⟨c, t, h0, g0, n3⟩ := N
  obtain ⟨p, k, kp, h1, h2, h3, h4, h5, -, h7⟩ := Cond.superclass_spec h0 w
  obtain ⟨t', k', q1, q2, q3, q4, -⟩ := Cond.instantiable_spec wk
  cases g0.symm.trans q1
  have q5 : k'.isInterface = false := (Bool.or_eq_false_iff.mp q4).1
  have ne := ids_ne h0 g0 hn
  refine ⟨c, t, h0, g0, ?_⟩
  show Z.vm.assignableAux (255 + 1) c t = false
  simp [Vm.assignableAux, ne, h2, q2, h5, q3, q5, Vm.isSubclass, n3]
theorem own_evM {s : State} {args : Array Value} {first : State} {o : Option Outcome} {idx : List Nat} {C : String} {cc : ClassId} {k : Class} {mr : Addr} (h1 : s.vm.findClass C = some cc) (h2 : s.vm.classes[cc]? = some k) (h3 : k.mirror = some mr) : (Term.mirror C).eval args first o idx s = some (.ref mr) := by
  simp only [Term.eval, h1, h2, h3, Option.bind_some, Option.bind_eq_bind]; rfl
theorem own_mlt {C : String} {mr : Addr} (M : Mir Z C mr) : mr < Z.heap.size := by obtain ⟨_, _, -, -, -, cell, q, -⟩ := M; exact (Array.getElem?_eq_some_iff.mp q).1
theorem own_ldm (X : Stand p l e R s m args below meth c T locs cells slots) (hx : p.tables.exec = Jvm.exec) (hZ : Z.Warmed39 s.vm) {a0 : Array Value} {own C : String} {index : Nat} (hown : s.vm.findClass own = some m.cls) (w : (Cond.classLink own index C).before a0 Z = true) (eT : T.heap = h) {mr : Addr} (M : Mir Z C mr) {g : JFrame} (hg : g.method = m) (hd : decode c.code g.pc = .ok (.ldc index, 2)) :
    ∃ T', Stand p l e R s m args below meth c T' locs cells slots ∧ T'.heap = h ∧ ∀ target, Steps p.tables e below (T'.setTop { g with pc := g.pc + 2, stack := .ref mr :: g.stack }) target → Steps p.tables e below (T.setTop g) target := by
  obtain ⟨cc, kc, m1, m2, m3, -⟩ := M
  obtain ⟨k', q, ek⟩ := hZ.alike.2.2 _ _ m2
  obtain ⟨vm', X', st⟩ := X.ldcMirror hx hown (mvT hZ w) (a := mr) (own_evM (by rw [hZ.alike.findClass]; exact m1) q (by rw [ek]; exact m3)) hg hd
  exact ⟨_, X', eT, st⟩
theorem own_nx {v : Value} {C : String} (q : v.isRef = true) : narrow (.object C) v = v := by rcases ref_cases q with rfl | ⟨_, rfl⟩ <;> rfl
theorem own_nxa {v : Value} {C : FieldType} (q : v.isRef = true) : narrow (.array C) v = v := by rcases ref_cases q with rfl | ⟨_, rfl⟩ <;> rfl
theorem own_fxa {v : Value} {C : FieldType} (q : v.isRef = true) : fits (.array C) v = true := by rcases ref_cases q with rfl | ⟨_, rfl⟩ <;> rfl
theorem own_ob (X : Stand p l e R s m args below meth c T locs cells slots) (hx : p.tables.exec = Jvm.exec) (hZ : Z.Warmed39 s.vm) {a0 : Array Value} {own : String} {idx : Nat} (hown : s.vm.findClass own = some m.cls) (w1 : (Cond.methodLink own idx Lib.objectInit).before a0 Z = true) (w2 : (Cond.instanceMethod Lib.objectInit).before a0 Z = true) (w3 : (Cond.code Lib.objectInit ⟨#[0xb1]⟩ 1 none).before a0 Z = true) (eT : T.heap = h)
    {g : JFrame} (hg : g.method = m) (hsize : g.locals.size = c.maxLocals) {rest : List Value} (hs : g.stack = .ref a :: rest) (hd : decode c.code g.pc = .ok (.invokespecial idx, 3)) (hf : 1 ≤ R.frames) (hlo : 2 * g.monitorRoom + (rest.map fun v => v.category).sum + 12 ≤ R.locals) :
    ∃ T', Stand p l e R s m args below meth c T' locs cells slots ∧ T'.heap = h ∧ ∀ target, Steps p.tables e below (T'.setTop { g with pc := g.pc + 3, stack := rest }) target → Steps p.tables e below (T.setTop g) target := by
  obtain ⟨vm', X', st⟩ := X.initObject hx hown (mvT hZ w1) (mvT hZ w2) (mvT hZ w3) hg hsize hs hd hf hlo
  exact ⟨_, X', eT, st⟩
theorem own_fx {v : Value} {C : String} (q : v.isRef = true) : fits (.object C) v = true := by rcases ref_cases q with rfl | ⟨_, rfl⟩ <;> rfl
theorem own_castz {k : ClassId} {ty : FieldType} {z z' : Int32} {vs : List Value} {d : Value} (q : z = z') (F : Arv Z h a k ty z vs d) : Arv Z h a k ty z' vs d := q ▸ F
/-- the same place of the walk, the state another (no cell written or made meanwhile) -/
def own_at2 (_ : Stand p l e R s m args below meth c T locs cells slots) (T' : State) (locs' : List Loc) (c' s' : Nat) : Prop := Stand p l e R s m args below meth c T' locs' c' s'
theorem own_wk (X : Stand p l e R s m args below meth c T locs cells slots) {c' s' : Nat} (hc : cells ≤ c') (hs : slots ≤ s') : Stand p l e R s m args below meth c T locs c' s' := { X with same := X.same.mono hc hs }
def own_at (_ : Stand p l e R s m args below meth c T locs cells slots) (T' : State) : Prop := Stand p l e R s m args below meth c T' locs cells slots
theorem own_ne_lo (q : a < h.size) (r : h.size ≤ b) : a ≠ b := Nat.ne_of_lt (Nat.lt_of_lt_of_le q r)
end OwnKit
def own_EL : List (String × Nat) := [("com/example/oyster/oyster/XmlDefinitionException", 7), ("com/example/oyster/oyster/XmlDefinitionException", 13), ("com/example/oyster/oyster/XmlDefinitionException", 15), ("com/example/oyster/oyster/XmlDefinitionException", 24), ("com/example/oyster/oyster/XmlElement", 220), ("com/example/oyster/oyster/XmlElement", 222), ("com/example/oyster/oyster/XmlElementUnreadPinLaw", 15)]
theorem own_EW {a0 : Array Value} {Z : State} (hw : ∀ d ∈ tables_1, d.before a0 Z = true) : EW Z a0 own_EL := (EW.cons (own_w hw 200) (by decide) (EW.cons (own_w hw 202) (by decide) (EW.cons (own_w hw 306) (by decide) (EW.cons (own_w hw 203) (by decide) (EW.cons (own_w hw 123) (by decide) (EW.cons (own_w hw 147) (by decide) (EW.cons (own_w hw 29) (by decide) EW.nil)))))))
theorem own_wS {a0 : Array Value} {Z : State} (hw : ∀ d ∈ tables_1, d.before a0 Z = true) : ∀ d ∈ Bundle.stringAtoms, d.before a0 Z = true := fun d hd => hw d ((by decide +kernel : ∀ d ∈ Bundle.stringAtoms, d ∈ tables_1) d hd)
theorem own_wa {a0 : Array Value} {Z : State} (hw : ∀ d ∈ tables_1, d.before a0 Z = true) : (Jvm.Cond.arrayClass .byte).before a0 Z = true := (own_w hw 17)
theorem own_wi {a0 : Array Value} {Z : State} (hw : ∀ d ∈ tables_1, d.before a0 Z = true) : (Jvm.Cond.instantiable "java/lang/String" 4).before a0 Z = true := (own_w hw 13)
theorem own_held {tb : Tables} {e : Env} {args : Array Value} {s : State} (hc : Calls_1 tb e args s) : ∀ p ∈ own_EL, Jvm.Lit.constHeld s p.1 p.2 := fun p hp => hc.2.2.1 p hp
section OwnKitW
variable {p : Program} {l : Launch} {e : Env} {R : Room} {s : State} {m : MethodId} {args : Array Value} {below : List Frame} {meth : Method} {c : Code} {T T' U Z : State} {locs : List Loc} {cells slots : Nat} {h h' h0 : Heap} {a b : Addr} {n0 : Nat} {vm0 : Vm} {EL : List (String × Nat)} {a0 : Array Value}
def own_PW (s Z : State) (EL : List (String × Nat)) (Q : Option Value → Heap → List Loc → Prop) (rc rs : Nat) : State → Outcome → Prop := fun U o => ∃ v L, o = .returned v ∧ Q v U.heap L ∧ CHr Z EL s.vm s.heap U.vm U.heap ∧ ReturnedEndW s o U L rc rs
def own_K (kn : Bool) : Program → Env → List Frame → State → Array Value → Prop := fun _ _ bl s _ => kn = true → s.vm.MethodsKnown ∧ s.vm.FramesKnown bl
def own_CW (l : Launch) (Z : State) (kn : Bool) (y : MethodName) (bytes : ByteArray) (maxL : Nat) (ret : Option FieldType) (ws : List Jvm.Cond) (rm : Room) (as : Array Value) (h0 : Heap) (sx : List Addr) (Q : Option Value → Heap → List Loc → Prop) : Prop :=
  MetFree l y (head1 (Jvm.Cond.code y bytes maxL ret :: ws) rm) (fun a U => a = as ∧ Z.Warmed39 U.vm ∧ U.heap = h0 ∧ CHv Z own_EL U.vm h0 ∧ ∀ x ∈ sx, Safe Z own_EL U.vm h0 x) (own_K kn) (fun _ U o U' => ∃ v L, o = .returned v ∧ Q v U'.heap L ∧ CHr Z own_EL U.vm U.heap U'.vm U'.heap ∧ ReturnedEndW U o U' L rm.cells rm.slots)
theorem own_entryW {kn : Bool} {y : MethodName} {bytes : ByteArray} {maxL : Nat} {ret : Option FieldType} {ws : List Jvm.Cond} {rm : Room} {as : Array Value} {sx : List Addr} {Q : Option Value → Heap → List Loc → Prop} (hpn : plainFor y = true)
    (body : ∀ (p : Program) (e : Env) (s : State) (m : MethodId) (below : List Frame) (meth : Method) (c : Code) (s₁ : State), p.tables.exec = Jvm.exec → c.code = bytes → c.maxLocals = maxL → s.vm.findClass y.cls = some m.cls → meth.name = y.name → meth.sig.returnType = ret → meth.locks = false → Z.Warmed39 s.vm → s.heap = h0 → CHv Z own_EL s.vm h0 → (∀ x ∈ sx, Safe Z own_EL s.vm h0 x) → (kn = true → s.vm.MethodsKnown ∧ s.vm.FramesKnown below) →
      Stand p l e rm (s.setVm s.vm) m as below meth c s₁ [] 0 0 → s₁.heap = h0 → own_Fin p.tables e below (own_PW s Z own_EL Q rm.cells rm.slots) s₁ (entryFrame m as maxL)) : own_CW l Z kn y bytes maxL ret ws rm as h0 sx Q := by
  refine MetFree.of_bodySF hpn hisR ?_
  intro p e s m args below meth c s₁ Bd hml0 hP hK
  obtain ⟨rfl, hZ, hh, hCH, hSf⟩ := hP
  exact body p e s m below meth c s₁ Bd.exec Bd.bytes hml0 (findClass_of_methodNamed Bd.named) (name_of_methodNamed Bd.named Bd.method).1 Bd.returns Bd.notSynchronized hZ hh hCH hSf hK (Stand.of_body Bd) (by rw [← hh, Bd.state]; rfl)
theorem own_leaveW (X : Stand p l e R (s.setVm vm0) m args below meth c T locs cells slots) {k0 : Nat} (hS : s.Since vm0 k0) (hk : k0 ≤ h.size) (hZ : Z.Warmed39 vm0) (hEL : EW Z a0 EL) (eT : T.heap = h) (hCH : CHr Z EL s.vm h0 vm0 h) (hh : s.heap = h0) (hlk : meth.locks = false) {Q : Option Value → Heap → List Loc → Prop} {v : Option Value} (hv : meth.sig.returnType = none → v = none) {rc rs : Nat} (hc : cells ≤ rc) (hs : slots ≤ rs) (hQ : Q v T.heap locs) {f : JFrame}
    (st : ∀ fs, (∀ (f : JFrame) (acts : List Action), f.method = m → f.locked = none → f.entered = [] → (doReturn e (T.setTop f) acts v).1 = T.setFrames fs) → Steps p.tables e below (T.setTop f) (T.setFrames fs)) : own_Fin p.tables e below (own_PW s Z EL Q rc rs) T f := by
  subst eT
  obtain ⟨fs, hr, hrun, hended, hv', hW, hI, hsame⟩ := X.leaveW hS hk hv hlk
  have q := CHr.trans hCH (CHv.at X hZ hEL hCH.1)
  exact ⟨_, _, st fs hr, hrun, hended, _, _, rfl, hQ, by rw [hh]; exact q, hv', hW, hI, hsame.mono hc hs⟩
theorem own_reb {vm1 : Vm} (X : Stand p l e R ((s.setVm vm0).setVm vm1) m args below meth c T locs cells slots) : Stand p l e R (s.setVm vm1) m args below meth c T locs cells slots := X
theorem own_since (s : State) (n : Nat) : s.Since s.vm n := (State.WarmedH.refl s).since n
theorem own_after (hZ : Z.Warmed39 vm0) {k0 : Nat} (hS : s.Since vm0 k0) (eT : T.heap = h) (hk : k0 ≤ h.size) (h2 : (s.setVm vm0).Since U.vm U.heap.size) (g : T.heap.size ≤ U.heap.size) {own : String} {k : ClassId} (hown : vm0.findClass own = some k) : Z.Warmed39 (s.setVm U.vm).vm ∧ s.Since U.vm U.heap.size ∧ (s.setVm U.vm).vm.findClass own = some k := by
  subst eT
  refine ⟨State.Warmed39.trans (t := s.setVm vm0) hZ h2.1, foldS hS hk h2 g, ?_⟩
  show U.vm.findClass own = some k
  rw [h2.1.alike.findClass]; exact hown
theorem own_backSH {kn : Bool} {y : MethodName} {bytes : ByteArray} {maxL : Nat} {ret : Option FieldType} {rm : Room} {len W : Nat} {as' : Array Value} {Q : Option Value → Heap → List Loc → Prop} {sx : List Addr}
    (hM : MetFree l y (head1 [Cond.code y bytes maxL ret] rm) (fun a U => a = as' ∧ Z.Warmed39 U.vm ∧ U.heap = h ∧ CHv Z EL U.vm h ∧ ∀ x ∈ sx, Safe Z EL U.vm h x) (own_K kn) (fun _ U o U' => ∃ v L, o = .returned v ∧ Q v U'.heap L ∧ CHr Z EL U.vm U.heap U'.vm U'.heap ∧ ReturnedEndW U o U' L rm.cells rm.slots))
    (hZ : Z.Warmed39 vm0) (wc : (Cond.code y bytes maxL ret).before a0 Z = true) (wz : (Cond.initialized y.cls).before a0 Z = true) (hf : rm.frames + 1 ≤ R.frames) (hl : W + (maxL + 11) + rm.locals ≤ R.locals) (hEL : EW Z a0 EL) (H : CHv Z EL vm0 h) (hsx : ∀ x ∈ sx, x < h.size ∧ Safe Z EL vm0 h x) (hkn : kn = true → vm0.MethodsKnown ∧ vm0.FramesKnown below) :
    BackS l R p e below (s.setVm vm0) args y len W (fun A a => a = as' ∧ A.U.heap = h ∧ A.cells + rm.cells ≤ R.cells ∧ A.slots + rm.slots ≤ R.slots)
      (fun A _ v B => ∃ L, Q v B.U.heap L ∧ B.locs = A.locs ++ L ∧ B.cells = A.cells + rm.cells ∧ B.slots = A.slots + rm.slots ∧ CHr Z EL vm0 h B.U.vm B.U.heap) :=
  BackS.of_freeWG (bytes := bytes) (maxL := maxL) (ret := ret) (E := fun _ u o t L k n => (k = rm.cells ∧ n = rm.slots) ∧ (∃ v, o = .returned v ∧ Q v t.heap L) ∧ CHr Z EL u.vm u.heap t.vm t.heap) hM hf hl
    (fun m meth c A a Y hp => by
      have hU : Z.Warmed39 A.U.vm := wtrans (s := s.setVm vm0) hZ Y.warmed
      refine ⟨?_, mv hU wc, mv hU wz, hp.2.2.1, hp.2.2.2⟩
      show (Cond.and _ .tt).before a A.U = true
      rw [Cond.before_and, mv hU wc]; rfl)
    (fun m meth c A a g mk Y hp => ⟨hp.1, wtrans (s := s.setVm vm0) hZ Y.warmed, hp.2.1, (CHv.at Y hZ hEL H).1, fun x hx => CHr.safe (CHv.at Y hZ hEL H) (hsx x hx).1 (hsx x hx).2⟩) (fun m meth c A a g mk Y _ hg hk => Jvm.Free.known_frames Y hg (hkn hk).1 (hkn hk).2)
    (fun _ _ _ _ ⟨v, L, q1, q2, q3, q4⟩ => ⟨L, _, _, q4, ⟨rfl, rfl⟩, ⟨v, q1, q2⟩, q3⟩)
    (fun m meth c A a g mk v t L k n Y hp _ _ ⟨⟨q1, q2⟩, ⟨v', q3, q4⟩, q5⟩ => by
      cases q3; subst q1 q2
      refine ⟨L, q4, rfl, rfl, rfl, CHr.trans (CHv.at Y hZ hEL H) ?_⟩
      rw [← hp.2.1]; exact q5)
theorem own_safe_new {vm : Vm} (H : CHv Z EL vm h) (E : Ext h h') (q : h.size ≤ a) : Safe Z EL vm h' a := Safe.ext E H (Safe.new q)
end OwnKitW
theorem own_of255 (x : Int32) : ∃ k : Fin 256, (x &&& 255) = Int32.ofNat k.val := by
  refine ⟨⟨(x &&& 255).toBitVec.toNat, ?_⟩, ?_⟩
  · simp only [Int32.toBitVec_and, BitVec.toNat_and]
    exact Nat.lt_succ_of_le Nat.and_le_right
  · apply Int32.toBitVec_inj.mp
    show _ = BitVec.ofNat 32 _
    rw [BitVec.ofNat_toNat]; simp
theorem own_m255 (x : Int32) : ¬ (x &&& (255 : Int32)) < 0 ∧ ¬ (255 : Int32) < (x &&& (255 : Int32)) := by
  have t : ∀ k : Fin 256, ¬ (Int32.ofNat k.val) < 0 ∧ ¬ (255 : Int32) < (Int32.ofNat k.val) := by decide +kernel
  obtain ⟨k, hk⟩ := own_of255 x
  rw [hk]; exact t k
theorem own_nc255 (x : Int32) : nar .char (x &&& (255 : Int32)) = (x &&& (255 : Int32)) := i2c_mask x
theorem own_fin {c : Int32} (h : ¬ c < 0 ∧ ¬ (255 : Int32) < c) : ∃ k : Fin 256, c = Int32.ofNat k.val := by
  have h1 := h.1; have h2 := h.2
  rw [Int32.lt_iff_toInt_lt] at h1 h2
  have e0 : (0 : Int32).toInt = 0 := rfl
  have e1 : (255 : Int32).toInt = 255 := rfl
  obtain ⟨k, hk⟩ : ∃ k : Nat, c.toInt = k := ⟨c.toInt.toNat, by omega⟩
  exact ⟨⟨k, by omega⟩, Int32.toInt_inj.mp (by rw [hk, Int32.toInt_ofNat_small (by omega)])⟩
theorem own_ncl {c : Int32} (h : ¬ c < 0 ∧ ¬ (255 : Int32) < c) : nar .char c = c := by
  have t : ∀ k : Fin 256, nar .char (Int32.ofNat k.val) = Int32.ofNat k.val := by decide +kernel
  obtain ⟨k, rfl⟩ := own_fin h
  exact t k
theorem own_nc16 (x : Int32) : nar .char (x.toUInt32.toUInt16.toUInt32.toInt32) = x.toUInt32.toUInt16.toUInt32.toInt32 := by
  show (x.toUInt32.toUInt16.toUInt32.toInt32).toUInt32.toUInt16.toUInt32.toInt32 = _
  simp only [UInt32.toUInt32_toInt32, UInt16.toUInt16_toUInt32]
theorem own_b8 (x : Int32) : nar .byte (x.toInt8.toInt32) = x.toInt8.toInt32 := by
  show (x.toInt8.toInt32).toInt8.toInt32 = _
  rw [Int8.toInt8_toInt32]
section OwnU
variable {p : Program} {l : Launch} {e : Env} {R : Room} {s : State} {m : MethodId} {args : Array Value} {below : List Frame} {meth : Method} {c : Code} {T Z : State} {locs : List Loc} {cells slots : Nat} {h : Heap} {a : Addr} {a0 : Array Value}
/-- the chars as UTF-16 bytes, the low one first (as ints; own_by narrows them) -/
def own_u (cs : List Int32) : List Int32 := cs.flatMap fun c => [(c >>> ((0 : Int32) &&& 31)).toInt8.toInt32, (c >>> ((8 : Int32) &&& 31)).toInt8.toInt32]
theorem own_u_app (a b : List Int32) : own_u (a ++ b) = own_u a ++ own_u b := by simp [own_u]
theorem own_ul {cs : List Int32} {n : Nat} (q : cs.length = n) : (own_u cs).length = 2 * n := by
  subst q
  induction cs with
  | nil => rfl
  | cons c cs ih => simp only [own_u, List.flatMap_cons, List.length_append, List.length_cons, List.length_nil] at ih ⊢; omega
theorem own_clB {k : ClassId} {z : Int32} {vs : List Value} {d : Value} (X : Stand p l e R s m args below meth c T locs cells slots) (hx : p.tables.exec = Jvm.exec) (hZ : Z.Warmed39 s.vm) {own : String} {index : Nat} (hown : s.vm.findClass own = some m.cls)
    (w1 : (Cond.methodLink own index ⟨"[B", "clone", "()Ljava/lang/Object;"⟩).before a0 Z = true) (w2 : (Cond.sameMethod "[B" "java/lang/Object" "clone" "()Ljava/lang/Object;").before a0 Z = true) (w3 : (Cond.native ⟨"java/lang/Object", "clone", "()Ljava/lang/Object;"⟩).before a0 Z = true)
    (w4 : (Cond.instanceMethod ⟨"java/lang/Object", "clone", "()Ljava/lang/Object;"⟩).before a0 Z = true) (w5 : (Cond.selects "[B" ⟨"[B", "clone", "()Ljava/lang/Object;"⟩ ⟨"java/lang/Object", "clone", "()Ljava/lang/Object;"⟩).before a0 Z = true) (w6 : (Cond.castable "[B" "java/lang/Cloneable").before a0 Z = true)
    (eT : T.heap = h) (F : Arv Z h a k .byte z vs d) (E : Exa Z h a "[B") {g : JFrame} (hg : g.method = m) (hsize : g.locals.size = c.maxLocals) {rest : List Value} (hst : g.stack = .ref a :: rest) (hd : decode c.code g.pc = .ok (.invokevirtual index, 3))
    (hf : 1 ≤ R.frames) {W cap : Nat} (hW : 2 * g.monitorRoom + (rest.map fun v => v.category).sum ≤ W) (hl : W + 14 ≤ R.locals) (hcap : z.toNatClampNeg ≤ cap) (hc : cells + 1 ≤ R.cells) (hsl : slots + cap ≤ R.slots) :
    ∃ T' h', Stand p l e R s m args below meth c T' locs (cells + 1) (slots + cap) ∧ T'.heap = h' ∧ Ext h h' ∧ Arv Z h' h.size k .byte z vs d ∧ Exa Z h' h.size "[B" ∧
      ∀ target, Steps p.tables e below (T'.setTop { g with pc := g.pc + 3, stack := .ref h.size :: rest }) target → Steps p.tables e below (T.setTop g) target := by
  obtain ⟨cl, A, q1, S, q3, H, G⟩ := F
  have FC : FitC Z cl := fitC_of A fun i hi v hv => by rw [H i hi] at hv; cases hv; exact G i hi
  obtain ⟨T', h', X', e', ex, A', E', st⟩ := cloneA X hx hZ hown w1 w2 w3 w4 w5 w6 eT A E FC hg hsize hst hd hf hW hl (by rw [S]; exact hcap) hc hsl
  exact ⟨T', h', X', e', ex, ⟨cloneOf cl, A', q1, S, q3, H, G⟩, E', st⟩
/-- the figures of StringUTF16.inflate -/
def own_lpz (do_ ln zs zd : Int32) : Prop := 2 * (do_.toNatClampNeg + ln.toNatClampNeg) ≤ zd.toNatClampNeg ∧ zd.toNatClampNeg ≤ 400 ∧ ln.toNatClampNeg ≤ zs.toNatClampNeg ∧ ¬ (do_ < (0 : Int32)) ∧ ¬ (ln < (0 : Int32))
theorem own_natC {x : Int32} (q : ¬ (x < (0 : Int32))) : x.toInt = x.toNatClampNeg := by
  rw [Int32.lt_iff_toInt_lt] at q
  have e0 : (0 : Int32).toInt = 0 := rfl
  simp only [Int32.toNatClampNeg]; omega
theorem own_ofI {n : Nat} (q : n ≤ 400) : (Int32.ofNat n).toInt = n := Int32.toInt_ofNat_small (by omega)
theorem own_ofN4 {n : Nat} (q : n ≤ 400) : (Int32.ofNat n).toNatClampNeg = n := by simp only [Int32.toNatClampNeg, own_ofI q]; rfl
variable {cs ds q1 q2 : List Int32} {cq ii sj dj do_ ln zs zd : Int32}
theorem own_inc1 (q : ii = Int32.ofNat q1.length) : ii + (1 : Int32) = Int32.ofNat (q1 ++ [cq]).length := by
  rw [q, List.length_append]; exact (Int32.ofNat_add ..).symm
theorem own_inc2 {k : Nat} (q : dj = Int32.ofNat (k + q1.length)) : dj + (1 : Int32) = Int32.ofNat (k + (q1 ++ [cq]).length) := by
  rw [q, List.length_append, ← Nat.add_assoc]; exact (Int32.ofNat_add ..).symm
theorem own_lpE (hii : ii = Int32.ofNat cs.length) (hcn : cs.length = ln.toNatClampNeg) (hzz : own_lpz do_ ln zs zd) : ¬ (ii < ln) := by
  obtain ⟨h1, h2, h3, h4, h5⟩ := hzz
  rw [Int32.lt_iff_toInt_lt, hii, own_ofI (by omega), own_natC h5]; omega
theorem own_lpT (hii : ii = Int32.ofNat q1.length) (hcn : cs.length = ln.toNatClampNeg) (hzz : own_lpz do_ ln zs zd) (hq : cs = q1 ++ cq :: q2) : ii < ln := by
  obtain ⟨h1, h2, h3, h4, h5⟩ := hzz
  have e := congrArg List.length hq
  simp only [List.length_append, List.length_cons] at e
  rw [Int32.lt_iff_toInt_lt, hii, own_ofI (by omega), own_natC h5]; omega
theorem own_lpB (hsj : sj = Int32.ofNat q1.length) (hcn : cs.length = ln.toNatClampNeg) (hzz : own_lpz do_ ln zs zd) (hq : cs = q1 ++ cq :: q2) : ¬ sj < 0 ∧ sj < zs := by
  obtain ⟨h1, h2, h3, h4, h5⟩ := hzz
  have e := congrArg List.length hq
  simp only [List.length_append, List.length_cons] at e
  have e0 : (0 : Int32).toInt = 0 := rfl
  have z1 : (zs.toNatClampNeg : Int) ≤ max zs.toInt 0 := by simp only [Int32.toNatClampNeg]; omega
  constructor
  · rw [Int32.lt_iff_toInt_lt, hsj, own_ofI (by omega)]; omega
  · rw [Int32.lt_iff_toInt_lt, hsj, own_ofI (by omega)]; omega
theorem own_lpV (hsj : sj = Int32.ofNat q1.length) (hcn : cs.length = ln.toNatClampNeg) (hzz : own_lpz do_ ln zs zd) (hq : cs = q1 ++ cq :: q2) : (own_by cs).getD sj.toNatClampNeg (.int (0 : Int32)) = .int (cq.toInt8.toInt32) := by
  obtain ⟨h1, h2, h3, h4, h5⟩ := hzz
  have e := congrArg List.length hq
  simp only [List.length_append, List.length_cons] at e
  rw [hsj, own_ofN4 (by omega), hq]
  simp [own_by, List.getD_eq_getElem?_getD, List.getElem?_append_right]
theorem own_m8 {c : Int32} (q : ¬ c < 0 ∧ ¬ (255 : Int32) < c) : (c.toInt8.toInt32 &&& (255 : Int32)) = c := by
  have t : ∀ k : Fin 256, ((Int32.ofNat k.val).toInt8.toInt32 &&& (255 : Int32)) = Int32.ofNat k.val := by decide +kernel
  obtain ⟨k, rfl⟩ := own_fin q
  exact t k
theorem own_shl {k : Nat} (q : k < 200) : ((Int32.ofNat k) <<< ((1 : Int32) &&& 31)).toInt = 2 * k ∧ (((Int32.ofNat k) <<< ((1 : Int32) &&& 31)) + (1 : Int32)).toInt = 2 * k + 1 := by
  have t : ∀ k : Fin 200, ((Int32.ofNat k.val) <<< ((1 : Int32) &&& 31)).toInt = 2 * (k.val : Int) ∧ (((Int32.ofNat k.val) <<< ((1 : Int32) &&& 31)) + (1 : Int32)).toInt = 2 * (k.val : Int) + 1 := by decide +kernel
  exact t ⟨k, q⟩
theorem own_pcs (hdj : dj = Int32.ofNat (do_.toNatClampNeg + q1.length)) (hcn : cs.length = ln.toNatClampNeg) (hzz : own_lpz do_ ln zs zd) (hq : cs = q1 ++ cq :: q2) :
    (dj <<< ((1 : Int32) &&& 31)).toNatClampNeg = 2 * (do_.toNatClampNeg + q1.length) ∧ ¬ ((dj <<< ((1 : Int32) &&& 31)) < (0 : Int32)) ∧ (dj <<< ((1 : Int32) &&& 31)) < zd ∧ ((dj <<< ((1 : Int32) &&& 31)) + (1 : Int32)).toNatClampNeg = (2 * (do_.toNatClampNeg + q1.length) + 1) ∧ ¬ (((dj <<< ((1 : Int32) &&& 31)) + (1 : Int32)) < (0 : Int32)) ∧ ((dj <<< ((1 : Int32) &&& 31)) + (1 : Int32)) < zd := by
  obtain ⟨h1, h2, h3, h4, h5⟩ := hzz
  have e := congrArg List.length hq
  simp only [List.length_append, List.length_cons] at e
  have e0 : (0 : Int32).toInt = 0 := rfl
  have z1 : (zd.toNatClampNeg : Int) ≤ max zd.toInt 0 := by simp only [Int32.toNatClampNeg]; omega
  obtain ⟨s1, s2⟩ := own_shl (k := do_.toNatClampNeg + q1.length) (by omega)
  rw [← hdj] at s1 s2
  refine ⟨?_, ?_, ?_, ?_, ?_, ?_⟩
  · simp only [Int32.toNatClampNeg] at s1 ⊢; rw [s1]; omega
  · rw [Int32.lt_iff_toInt_lt, s1]; omega
  · rw [Int32.lt_iff_toInt_lt, s1]; omega
  · simp only [Int32.toNatClampNeg] at s2 ⊢; rw [s2]; omega
  · rw [Int32.lt_iff_toInt_lt, s2]; omega
  · rw [Int32.lt_iff_toInt_lt, s2]; omega
theorem own_pl (hdn : ds.length = 2 * do_.toNatClampNeg) : (ds ++ own_u q1).length = 2 * (do_.toNatClampNeg + q1.length) := by
  rw [List.length_append, hdn, own_ul rfl]; omega
theorem own_uc {b : Addr} {k : ClassId} {z : Int32} {d : Value} (V : Arv Z h b k .byte z (own_by (((ds ++ own_u q1) ++ [(cq >>> ((0 : Int32) &&& 31)).toInt8.toInt32]) ++ [(cq >>> ((8 : Int32) &&& 31)).toInt8.toInt32])) d) : Arv Z h b k .byte z (own_by (ds ++ own_u (q1 ++ [cq]))) d := by
  have e : ds ++ own_u (q1 ++ [cq]) = ((ds ++ own_u q1) ++ [(cq >>> ((0 : Int32) &&& 31)).toInt8.toInt32]) ++ [(cq >>> ((8 : Int32) &&& 31)).toInt8.toInt32] := by
    rw [own_u_app]; simp [own_u]
  rw [e]; exact V
theorem own_d0 (hzz : own_lpz do_ ln zs zd) : do_ = Int32.ofNat (do_.toNatClampNeg + ([] : List Int32).length) := by
  obtain ⟨h1, h2, h3, h4, h5⟩ := hzz
  apply Int32.toInt_inj.mp
  rw [List.length_nil, Nat.add_zero, own_ofI (by omega), own_natC h4]
end OwnU
section OwnA
variable {Z : State} {h h' : Heap} {x b a t t' o : Addr} {sl : Nat} {v : Value} {ws : List Addr} {cs ds : List Int32} {m n K : Int32}
abbrev own_lat (cs : List Int32) : Prop := ∀ c ∈ cs, ¬ c < 0 ∧ ¬ (255 : Int32) < c
/-- the bytes of a String or of a builder, the coder hidden: latin, or UTF-16 with a char that is not latin -/
def own_cd (Z : State) (h : Heap) (x b : Addr) (C : String) (cs : List Int32) (m : Int32) : Prop :=
  ∃ k, (Fld Z h x C "coder" "B" (.int (0 : Int32)) ∧ Arv Z h b k .byte m (own_by cs) (.int (0 : Int32)) ∧ own_lat cs) ∨
    (Fld Z h x C "coder" "B" (.int (1 : Int32)) ∧ Arv Z h b k .byte (m <<< ((1 : Int32) &&& 31)) (own_by (own_u cs)) (.int (0 : Int32)) ∧ ∃ c ∈ cs, (255 : Int32) < c)
theorem own_cd.ext {C : String} (F : own_cd Z h x b C cs m) (E : Ext h h') : own_cd Z h' x b C cs m := by
  obtain ⟨k, ⟨f, q, r⟩ | ⟨f, q, r⟩⟩ := F
  · exact ⟨k, Or.inl ⟨f.ext E, q.ext E, r⟩⟩
  · exact ⟨k, Or.inr ⟨f.ext E, q.ext E, r⟩⟩
theorem own_cd.wr {C : String} (F : own_cd Z h x b C cs m) (W : Wr h h' a sl v) (h1 : x ≠ a ∨ Jvm.RoadKit.slotOf Z C "coder" "B" ≠ sl) (h2 : b ≠ a) : own_cd Z h' x b C cs m := by
  obtain ⟨k, ⟨f, q, r⟩ | ⟨f, q, r⟩⟩ := F
  · exact ⟨k, Or.inl ⟨f.other W h1, q.other W h2, r⟩⟩
  · exact ⟨k, Or.inr ⟨f.other W h1, q.other W h2, r⟩⟩
theorem own_cd.keep {C : String} (F : own_cd Z h x b C cs m) (W : Keep h h' ws) (h1 : x ∉ ws) (h2 : b ∉ ws) : own_cd Z h' x b C cs m := by
  obtain ⟨k, ⟨f, q, r⟩ | ⟨f, q, r⟩⟩ := F
  · exact ⟨k, Or.inl ⟨f.keep W h1, q.keep W h2, r⟩⟩
  · exact ⟨k, Or.inr ⟨f.keep W h1, q.keep W h2, r⟩⟩
theorem own_cd.lt {C : String} (F : own_cd Z h x b C cs m) : b < h.size := by
  obtain ⟨k, ⟨-, q, -⟩ | ⟨-, q, -⟩⟩ := F
  · exact q.lt
  · exact q.lt
def own_st (Z : State) (h : Heap) (x b : Addr) (cs : List Int32) (m : Int32) : Prop :=
  Exa Z h x "java/lang/String" ∧ Fld Z h x "java/lang/String" "value" "[B" (.ref b) ∧ cs.length = m.toNatClampNeg ∧ own_cd Z h x b "java/lang/String" cs m
theorem own_st.ext (F : own_st Z h x b cs m) (E : Ext h h') : own_st Z h' x b cs m := ⟨F.1.ext E, F.2.1.ext E, F.2.2.1, F.2.2.2.ext E⟩
theorem own_st.wr (F : own_st Z h x b cs m) (W : Wr h h' a sl v) (h1 : x ≠ a) (h2 : b ≠ a) : own_st Z h' x b cs m := ⟨F.1.wr W, F.2.1.other W (Or.inl h1), F.2.2.1, F.2.2.2.wr W (Or.inl h1) h2⟩
theorem own_st.keep (F : own_st Z h x b cs m) (W : Keep h h' ws) (h1 : x ∉ ws) (h2 : b ∉ ws) : own_st Z h' x b cs m := ⟨F.1.keep W, F.2.1.keep W h1, F.2.2.1, F.2.2.2.keep W h1 h2⟩
theorem own_st.lt (F : own_st Z h x b cs m) : x < h.size := F.1.lt
theorem own_st.ltb (F : own_st Z h x b cs m) : b < h.size := F.2.2.2.lt
theorem own_stL {k : ClassId} (E : Exa Z h x "java/lang/String") (F : Fld Z h x "java/lang/String" "value" "[B" (.ref b)) (q : cs.length = m.toNatClampNeg) (f : Fld Z h x "java/lang/String" "coder" "B" (.int (0 : Int32))) (A : Arv Z h b k .byte m (own_by cs) (.int (0 : Int32))) (l : own_lat cs) : own_st Z h x b cs m := ⟨E, F, q, k, Or.inl ⟨f, A, l⟩⟩
theorem own_stU {k : ClassId} (E : Exa Z h x "java/lang/String") (F : Fld Z h x "java/lang/String" "value" "[B" (.ref b)) (q : cs.length = m.toNatClampNeg) (f : Fld Z h x "java/lang/String" "coder" "B" (.int (1 : Int32))) (A : Arv Z h b k .byte (m <<< ((1 : Int32) &&& 31)) (own_by (own_u cs)) (.int (0 : Int32))) (l : ∃ c ∈ cs, (255 : Int32) < c) : own_st Z h x b cs m := ⟨E, F, q, k, Or.inr ⟨f, A, l⟩⟩
/-- a builder: its chars cs (n of them), room for K chars in the array t -/
def own_sb (Z : State) (h : Heap) (x t : Addr) (cs : List Int32) (n K : Int32) : Prop :=
  Exa Z h x "java/lang/StringBuilder" ∧ Fld Z h x "java/lang/AbstractStringBuilder" "value" "[B" (.ref t) ∧ Fld Z h x "java/lang/AbstractStringBuilder" "maybeLatin1" "Z" (.int (0 : Int32)) ∧ Exa Z h t "[B" ∧ cs.length = n.toNatClampNeg ∧ own_cd Z h x t "java/lang/AbstractStringBuilder" cs K
theorem own_sb.ext (F : own_sb Z h x t cs n K) (E : Ext h h') : own_sb Z h' x t cs n K := ⟨F.1.ext E, F.2.1.ext E, F.2.2.1.ext E, F.2.2.2.1.ext E, F.2.2.2.2.1, F.2.2.2.2.2.ext E⟩
theorem own_sb.wr (F : own_sb Z h x t cs n K) (W : Wr h h' a sl v) (h1 : x ≠ a) (h2 : t ≠ a) : own_sb Z h' x t cs n K := ⟨F.1.wr W, F.2.1.other W (Or.inl h1), F.2.2.1.other W (Or.inl h1), F.2.2.2.1.wr W, F.2.2.2.2.1, F.2.2.2.2.2.wr W (Or.inl h1) h2⟩
theorem own_sb.wrc (F : own_sb Z h x t cs n K) (W : Wr h h' x sl v) (h1 : Jvm.RoadKit.slotOf Z "java/lang/AbstractStringBuilder" "value" "[B" ≠ sl) (h2 : Jvm.RoadKit.slotOf Z "java/lang/AbstractStringBuilder" "maybeLatin1" "Z" ≠ sl) (h3 : Jvm.RoadKit.slotOf Z "java/lang/AbstractStringBuilder" "coder" "B" ≠ sl) (h4 : t ≠ x) : own_sb Z h' x t cs n K :=
  ⟨F.1.wr W, F.2.1.other W (Or.inr h1), F.2.2.1.other W (Or.inr h2), F.2.2.2.1.wr W, F.2.2.2.2.1, F.2.2.2.2.2.wr W (Or.inr h3) h4⟩
theorem own_sb.keep (F : own_sb Z h x t cs n K) (W : Keep h h' ws) (h1 : x ∉ ws) (h2 : t ∉ ws) : own_sb Z h' x t cs n K := ⟨F.1.keep W, F.2.1.keep W h1, F.2.2.1.keep W h1, F.2.2.2.1.keep W, F.2.2.2.2.1, F.2.2.2.2.2.keep W h1 h2⟩
theorem own_sb.lt (F : own_sb Z h x t cs n K) : x < h.size := F.1.lt
theorem own_sb.ltb (F : own_sb Z h x t cs n K) : t < h.size := F.2.2.2.2.2.lt
theorem own_sbL {k : ClassId} (E : Exa Z h x "java/lang/StringBuilder") (F : Fld Z h x "java/lang/AbstractStringBuilder" "value" "[B" (.ref t)) (M : Fld Z h x "java/lang/AbstractStringBuilder" "maybeLatin1" "Z" (.int (0 : Int32))) (Et : Exa Z h t "[B") (q : cs.length = n.toNatClampNeg) (f : Fld Z h x "java/lang/AbstractStringBuilder" "coder" "B" (.int (0 : Int32))) (A : Arv Z h t k .byte K (own_by cs) (.int (0 : Int32))) (l : own_lat cs) : own_sb Z h x t cs n K := ⟨E, F, M, Et, q, k, Or.inl ⟨f, A, l⟩⟩
theorem own_sbU {k : ClassId} (E : Exa Z h x "java/lang/StringBuilder") (F : Fld Z h x "java/lang/AbstractStringBuilder" "value" "[B" (.ref t)) (M : Fld Z h x "java/lang/AbstractStringBuilder" "maybeLatin1" "Z" (.int (0 : Int32))) (Et : Exa Z h t "[B") (q : cs.length = n.toNatClampNeg) (f : Fld Z h x "java/lang/AbstractStringBuilder" "coder" "B" (.int (1 : Int32))) (A : Arv Z h t k .byte (K <<< ((1 : Int32) &&& 31)) (own_by (own_u cs)) (.int (0 : Int32))) (l : ∃ c ∈ cs, (255 : Int32) < c) : own_sb Z h x t cs n K := ⟨E, F, M, Et, q, k, Or.inr ⟨f, A, l⟩⟩
/-- of latin chars the coder is 0 -/
theorem own_cd.lat {C : String} (F : own_cd Z h x b C cs m) (l : own_lat cs) : ∃ k, Fld Z h x C "coder" "B" (.int (0 : Int32)) ∧ Arv Z h b k .byte m (own_by cs) (.int (0 : Int32)) := by
  obtain ⟨k, ⟨f, q, r⟩ | ⟨f, q, c, hc, r⟩⟩ := F
  · exact ⟨k, f, q⟩
  · exact absurd r (l c hc).2
theorem own_nlL (l : ∃ c ∈ cs, (255 : Int32) < c) : ∃ c ∈ cs ++ ds, (255 : Int32) < c := by obtain ⟨c, q, r⟩ := l; exact ⟨c, List.mem_append_left _ q, r⟩
theorem own_nlR (l : ∃ c ∈ ds, (255 : Int32) < c) : ∃ c ∈ cs ++ ds, (255 : Int32) < c := by obtain ⟨c, q, r⟩ := l; exact ⟨c, List.mem_append_right _ q, r⟩
theorem own_alt {P : Addr → Prop} {A : Prop} (q : o = t ∨ A) (h1 : P t) (h2 : A → P o) : P o := by
  rcases q with rfl | q
  · exact h1
  · exact h2 q
theorem own_altz {i j : Nat} (q : o = t ∨ j ≤ o) (r : i ≤ j) : o = t ∨ i ≤ o := q.imp id (Nat.le_trans r)
theorem own_altge {i j : Nat} (q : o = t ∨ j ≤ o) (g : i ≤ t) (r : i ≤ j) : i ≤ o := own_alt q g (Nat.le_trans r)
theorem own_altne (q : o = t ∨ h.size ≤ o) (g : a ≠ t) (r : a < h.size) : a ≠ o := by
  rcases q with rfl | q
  · exact g
  · exact Nat.ne_of_lt (Nat.lt_of_lt_of_le r q)
theorem own_uapp {k : ClassId} {z : Int32} {d : Value} (V : Arv Z h b k .byte z (own_by (own_u cs ++ own_u ds)) d) : Arv Z h b k .byte z (own_by (own_u (cs ++ ds))) d := by rw [own_u_app]; exact V
theorem own_lapp (h1 : cs.length = n.toNatClampNeg) (h2 : ds.length = m.toNatClampNeg) (q : n.toNatClampNeg + m.toNatClampNeg = K.toNatClampNeg) : (cs ++ ds).length = K.toNatClampNeg := by rw [List.length_append, h1, h2, q]
end OwnA
def own_dig : List Value := (List.range 100).map fun i => Value.int (Int32.ofNat (48 + i % 10))
theorem own_ten {n : Int32} (h1 : ¬ n < (0 : Int32)) (h4 : ¬ (-n) < (-9 : Int32)) : ∃ k : Fin 10, n = Int32.ofNat k.val := by
  rw [Int32.lt_iff_toInt_lt] at h1 h4
  have e0 : (0 : Int32).toInt = 0 := rfl
  have e9 : (-9 : Int32).toInt = -9 := by decide
  by_cases q : n.toInt = -2147483648
  · omega
  · have en : (-n).toInt = -n.toInt := by
      have a1 := n.toInt_lt; have a2 := n.le_toInt
      rw [Int32.toInt_neg]
      rw [Int.bmod_eq_of_le] <;> omega
    obtain ⟨k, hk⟩ : ∃ k : Nat, n.toInt = k := ⟨n.toInt.toNat, by omega⟩
    exact ⟨⟨k, by omega⟩, Int32.toInt_inj.mp (by rw [hk, Int32.toInt_ofNat_small (by omega)])⟩
theorem own_dgi {n : Int32} (h1 : ¬ n < (0 : Int32)) (h4 : ¬ (-n) < (-9 : Int32)) : ¬ (-(-n)) < 0 ∧ (-(-n)) < (100 : Int32) := by
  have t : ∀ k : Fin 10, ¬ (-(-Int32.ofNat k.val)) < 0 ∧ (-(-Int32.ofNat k.val)) < (100 : Int32) := by decide +kernel
  obtain ⟨k, rfl⟩ := own_ten h1 h4
  exact t k
theorem own_dgv {n : Int32} (h1 : ¬ n < (0 : Int32)) (h4 : ¬ (-n) < (-9 : Int32)) : own_dig.getD (-(-n)).toNatClampNeg (.int (0 : Int32)) = .int ((48 : Int32) + n) := by
  have t : ∀ k : Fin 10, (-(-Int32.ofNat k.val)).toNatClampNeg = k.val ∧ Int32.ofNat (48 + k.val % 10) = (48 : Int32) + Int32.ofNat k.val := by decide +kernel
  obtain ⟨k, rfl⟩ := own_ten h1 h4
  rw [(t k).1, ← (t k).2]
  have hk : k.val < 100 := by omega
  simp [own_dig, List.getD_eq_getElem?_getD, hk]
theorem own_48 {n : Int32} (h1 : ¬ n < (0 : Int32)) (h4 : ¬ (-n) < (-9 : Int32)) : ¬ ((48 : Int32) + n) < 0 ∧ ¬ (255 : Int32) < ((48 : Int32) + n) := by
  have t : ∀ k : Fin 10, ¬ ((48 : Int32) + Int32.ofNat k.val) < 0 ∧ ¬ (255 : Int32) < ((48 : Int32) + Int32.ofNat k.val) := by decide +kernel
  obtain ⟨k, rfl⟩ := own_ten h1 h4
  exact t k
theorem own_dn (n : Int32) (h : ∃ k : Fin 10, n = Int32.ofNat k.val) : ¬ (n < (0 : Int32)) ∧ (-10 : Int32) < (-n) ∧ (-100 : Int32) < (-n) ∧ ¬ ((-n) < (-9 : Int32)) := by
  have t : ∀ k : Fin 10, ¬ (Int32.ofNat k.val < (0 : Int32)) ∧ (-10 : Int32) < (-Int32.ofNat k.val) ∧ (-100 : Int32) < (-Int32.ofNat k.val) ∧ ¬ ((-Int32.ofNat k.val) < (-9 : Int32)) := by decide +kernel
  obtain ⟨k, rfl⟩ := h
  exact t k
theorem own_ones {s : State} {args : Array Value} (hfit : Fit s) (hx : (Jvm.Cond.exactly (.static "java/lang/Integer" "DigitOnes" "[B") "[B").before args s = true) (hl : (Jvm.Cond.eq (.length (.static "java/lang/Integer" "DigitOnes" "[B")) (.int (100 : Int32))).before args s = true) (ho : Jvm.Free.SBG.onesW.before args s = true) (harr : (Jvm.Cond.arrayClass .byte).before args s = true) : ∃ d k, (Term.static "java/lang/Integer" "DigitOnes" "[B").eval args s none [] s = some (.ref d) ∧ Arv s s.heap d k .byte (100 : Int32) own_dig (.int (0 : Int32)) := by
  obtain ⟨d, cB, D, kB, hev, hfcB, hcellD, hkB, hstatD, hclsD, -⟩ := Cond.exactly_spec hx
  have hevAll : ∀ idx, (Term.static "java/lang/Integer" "DigitOnes" "[B").eval args s none idx s = some (.ref d) := fun idx => by
    have : (Term.static "java/lang/Integer" "DigitOnes" "[B").eval args s none idx s = (Term.static "java/lang/Integer" "DigitOnes" "[B").eval args s none [] s := by simp only [Term.eval]
    rw [this]; exact hev
  have q := Cond.eq_int hl rfl
  obtain ⟨d', D', hev', hat, hlen⟩ := Term.length_spec q
  cases hev.symm.trans hev'
  obtain ⟨hcellD', hknD, -, -⟩ := State.arrayAt?_spec hat
  cases hcellD.symm.trans hcellD'
  have h31 := Jvm.Free.SBG.length_lt hev hat q
  have hsz : D.slots.size = 100 := by
    have h2 := congrArg Int32.toInt (Value.int.inj hlen)
    rw [show D.slots.size.toInt32 = Int32.ofNat D.slots.size from rfl, Int32.toInt_ofNat_small h31] at h2
    have e : (100 : Int32).toInt = 100 := rfl
    omega
  obtain ⟨cB', kB', comp, hnameB, hkB', hkindB⟩ := Cond.arrayClass_spec harr
  have eBA : ("[" ++ FieldType.toString .byte) = "[B" := by decide
  rw [eBA] at hnameB
  cases hfcB.symm.trans hnameB
  cases hkB.symm.trans hkB'
  have A : Arr s s.heap d D .byte := ⟨hcellD, ⟨(fun q h => by rw [h] at hstatD; cases hstatD), kB, (by rw [hclsD]; exact hkB), comp, hkindB⟩, hknD⟩
  have hint : ∀ r, r < 100 → D.slots[r]? = some (.int (Jvm.Free.SBG.iAt D r)) := fun r hr => by
    have hr' : r < D.slots.size := by omega
    obtain ⟨v, h1, h2⟩ : ∃ v, D.slots[r]? = some v ∧ fits .byte v = true := by
      have e1 : (Nat.toInt32 r).toNatClampNeg = r := by simp only [Int32.toNatClampNeg, len_toInt (show r < 2 ^ 31 by omega)]; rfl
      obtain ⟨v, h1, h2⟩ := elem_fit (j := Nat.toInt32 r) hfit A (idx_in hr' (by omega))
      rw [e1] at h1
      exact ⟨v, h1, h2⟩
    obtain ⟨x, rfl⟩ := fit_I h2 (by simp)
    rw [h1]; simp [Jvm.Free.SBG.iAt, Array.getD_eq_getD_getElem?, h1]
  have hO := Jvm.Free.SBG.held_of_word (F := fun r => 48 + r % 10) hevAll hat hsz hint (fun r hr => by rw [← Jvm.Free.SBG.ones_num r hr]; rfl) ho
  refine ⟨d, D.cls, hev, D, A, rfl, by rw [hsz]; rfl, by decide, fun i hi => ?_, fun i hi => ?_⟩
  · rw [hsz] at hi
    rw [hint i hi, hO i hi]
    simp [own_dig, List.getD_eq_getElem?_getD, hi]
  · rw [hsz] at hi
    simp only [own_dig, List.getD_eq_getElem?_getD, List.getElem?_map, List.getElem?_range hi, Option.map_some, Option.getD_some]
    have t : ∀ k : Fin 100, fits .byte (.int (Int32.ofNat (48 + k.val % 10))) = true := by decide +kernel
    exact t ⟨i, hi⟩
theorem own_dn19 {n : Int32} (h1 : ¬ n < (1 : Int32)) (h9 : ¬ (9 : Int32) < n) : ¬ (n < (0 : Int32)) ∧ (-10 : Int32) < (-n) ∧ (-100 : Int32) < (-n) ∧ ¬ ((-n) < (-9 : Int32)) := by
  rw [Int32.lt_iff_toInt_lt] at h1 h9
  have e1 : (1 : Int32).toInt = 1 := rfl
  have e9 : (9 : Int32).toInt = 9 := rfl
  obtain ⟨k, hk⟩ : ∃ k : Nat, n.toInt = k := ⟨n.toInt.toNat, by omega⟩
  exact own_dn n ⟨⟨k, by omega⟩, Int32.toInt_inj.mp (by rw [hk, Int32.toInt_ofNat_small (by omega)])⟩
/-- the line's part of the message -/
def own_lm (n : Int32) : List Int32 := if n < (1 : Int32) then ([] : List Int32) else ((([] : List Int32) ++ ([(44 : Int32), (32 : Int32), (108 : Int32), (105 : Int32), (110 : Int32), (101 : Int32), (32 : Int32)] : List Int32)) ++ ([((48 : Int32) + n)] : List Int32))
def own_ml (n : Int32) : Int32 := if n < (1 : Int32) then (48 : Int32) else (56 : Int32)
theorem own_lmT {n : Int32} (q : n < (1 : Int32)) : own_lm n = ([] : List Int32) := if_pos q
theorem own_lmN {n : Int32} (q : ¬ n < (1 : Int32)) : own_lm n = ((([] : List Int32) ++ ([(44 : Int32), (32 : Int32), (108 : Int32), (105 : Int32), (110 : Int32), (101 : Int32), (32 : Int32)] : List Int32)) ++ ([((48 : Int32) + n)] : List Int32)) := if_neg q
theorem own_mlT {n : Int32} (q : n < (1 : Int32)) : own_ml n = (48 : Int32) := if_pos q
theorem own_mlN {n : Int32} (q : ¬ n < (1 : Int32)) : own_ml n = (56 : Int32) := if_neg q
section OwnL
variable {p : Program} {l : Launch} {e : Env} {R : Room} {s : State} {m : MethodId} {args : Array Value} {below : List Frame} {meth : Method} {c : Code} {T Z : State} {locs : List Loc} {cells slots : Nat} {h hs : Heap} {a : Addr} {n0 : Nat}
abbrev own_ci (cs : List Int32) : List Value := cs.map Value.int
abbrev own_chs (cs : List Int32) : Prop := ∀ c ∈ cs, ¬ c < 0 ∧ ¬ (65535 : Int32) < c
/-- a char array whose first n chars are cs -/
def own_pa (Z : State) (h : Heap) (a : Addr) (k : ClassId) (z : Int32) (cs : List Int32) (n : Nat) : Prop := Arv Z h a k .char z (own_ci cs) (.int (0 : Int32)) ∧ cs.length = n ∧ own_chs cs
theorem own_pa.cast {k : ClassId} {z : Int32} {cs ds : List Int32} {n : Nat} (q : own_pa Z h a k z cs n) (e : cs = ds) : own_pa Z h a k z ds n := e ▸ q
theorem own_ch16 {c : Int32} (hc : ¬ c < 0 ∧ ¬ (65535 : Int32) < c) : ∃ (x y : Fin 256), c = Int32.ofNat (256 * x.val + y.val) := by
  obtain ⟨h1, h2⟩ := hc
  rw [Int32.lt_iff_toInt_lt] at h1 h2
  have e0 : (0 : Int32).toInt = 0 := rfl
  have e1 : (65535 : Int32).toInt = 65535 := rfl
  obtain ⟨k, hk⟩ : ∃ k : Nat, c.toInt = k := ⟨c.toInt.toNat, by omega⟩
  refine ⟨⟨k / 256, by omega⟩, ⟨k % 256, by omega⟩, Int32.toInt_inj.mp ?_⟩
  show c.toInt = (Int32.ofNat (256 * (k / 256) + k % 256)).toInt
  rw [show 256 * (k / 256) + k % 256 = k by omega, hk, Int32.toInt_ofNat_small (by omega)]
theorem own_nc {c : Int32} (hc : ¬ c < 0 ∧ ¬ (65535 : Int32) < c) : nar .char c = c := by
  obtain ⟨x, y, rfl⟩ := own_ch16 hc
  show (Int32.ofNat (256 * x.val + y.val)).toUInt32.toUInt16.toUInt32.toInt32 = _
  apply Int32.toBitVec_inj.mp
  apply BitVec.eq_of_toNat_eq
  simp
  omega
/-- a char behind those that stand -/
theorem own_put {k : ClassId} {z j x : Int32} {cs : List Int32} {n : Nat} (X : Stand p l e R s m args below meth c T locs cells slots) (hx : p.tables.exec = Jvm.exec) (hZ : Z.Warmed39 s.vm) (eT : T.heap = h) (K : Keep hs h [a]) (q : own_pa Z h a k z cs n) (N : Fr n0 locs) (ga : n0 ≤ a) (hj : j.toNatClampNeg = n) (hb : ¬ j < 0 ∧ j < z) (hc : ¬ x < 0 ∧ ¬ (65535 : Int32) < x)
    {g : JFrame} (hg : g.method = m) {rest : List Value} (hs' : g.stack = .int x :: .int j :: .ref a :: rest) (hd : decode c.code g.pc = .ok (.castore, 1)) :
    ∃ T' h' L', Stand p l e R s m args below meth c T' L' cells slots ∧ T'.heap = h' ∧ Keep hs h' [a] ∧ own_pa Z h' a k z (cs ++ [x]) (n + 1) ∧ Fr n0 L' ∧ ∀ target, Steps p.tables e below (T'.setTop { g with pc := g.pc + 1, stack := rest }) target → Steps p.tables e below (T.setTop g) target := by
  obtain ⟨V, hn, hcs⟩ := q
  obtain ⟨cl, A, q1, q2, q3, H, G⟩ := V.pad (pad_rep (own_ci cs) (.int (0 : Int32)) 1)
  obtain ⟨T', h', X', e', W, st⟩ := stC X hx hZ eT A (j := j) (inb_of q2 hb) hg hs' hd
  refine ⟨T', h', _, X', e', K.wr W (Or.inl (List.mem_of_getElem? (i := 0) rfl)), ⟨?_, by rw [List.length_append, hn]; rfl, fun c q => (List.mem_append.mp q).elim (hcs c) fun q => by rw [List.mem_singleton.mp q]; exact hc⟩, Fr.snoc X' N ga, st⟩
  have q : Arv Z h' a k .char z ((own_ci cs ++ List.replicate 1 (Value.int 0)).set n (.int (nar .char x))) (.int (0 : Int32)) := Arv.set A q1 q2 q3 H G (fits_nar_char x) W n hj (by simp [own_ci, hn])
  have e : (own_ci cs ++ List.replicate 1 (Value.int 0)).set n (.int (nar .char x)) = own_ci (cs ++ [x]) := by
    rw [own_nc hc, List.set_append_right _ _ (by simp [own_ci, hn])]; simp [own_ci, hn]
  rw [e] at q; exact q
theorem own_qb {P : State → Outcome → Prop} {k : ClassId} {z : Int32} {cs : List Int32} {n : Nat} {bs : ByteArray} {pc : Nat} {Ls : Array Slot} {i i' : Int} (X : Stand p l e R s m args below meth c T locs cells slots) (hx : p.tables.exec = Jvm.exec) (hby : c.code = bs) (hZ : Z.Warmed39 s.vm) (eT : T.heap = h) (K : Keep hs h [a]) (q : own_pa Z h a k z cs n) (N : Fr n0 locs) (ga : n0 ≤ a) (d1 : decode bs pc = .ok (.dup, 1)) (d2 : decode bs (pc + 1) = .ok (.bipush i, 2)) (d3 : decode bs (pc + 3) = .ok (.bipush i', 2)) (d4 : decode bs (pc + 5) = .ok (.castore, 1)) (j x : Int32) (n' p' : Nat)
    (r : ∀ T' h' L', Stand p l e R s m args below meth c T' L' cells slots → T'.heap = h' → Keep hs h' [a] → own_pa Z h' a k z (cs ++ [x]) n' → Fr n0 L' → own_Fin p.tables e below P T' (mkF m p' Ls [.ref a])) (hq : (Int8.ofInt i).toInt32 = j ∧ (Int8.ofInt i').toInt32 = x ∧ n + 1 = n' ∧ pc + 6 = p' ∧ j.toNatClampNeg = n ∧ (¬ j < 0 ∧ j < z) ∧ (¬ x < 0 ∧ ¬ (65535 : Int32) < x) := by decide) : own_Fin p.tables e below P T (mkF m pc Ls [.ref a]) := by
  obtain ⟨r1, r2, r3, r4, hj, hb, hc⟩ := hq
  subst r1 r2 r3 r4
  obtain ⟨T', h', L', X', e', K', P', N', s'⟩ := own_put X hx hZ eT K q N ga (j := (Int8.ofInt i).toInt32) (x := (Int8.ofInt i').toInt32) hj hb hc (g := mkF m (pc + 5) Ls [.int (Int8.ofInt i').toInt32, .int (Int8.ofInt i).toInt32, .ref a, .ref a]) rfl rfl (by rw [hby]; exact d4)
  exact og T' _ (fun t k => XS.dup X.here hx rfl (by rw [hby]; exact d1) rfl rfl (XS.bipush X.here hx rfl (by rw [hby]; exact d2) (XS.bipush X.here hx rfl (by rw [hby]; exact d3) (s' t k)))) (r T' h' L' X' e' K' P' N')
theorem own_qcb {P : State → Outcome → Prop} {k : ClassId} {z : Int32} {cs : List Int32} {n : Nat} {bs : ByteArray} {pc : Nat} {Ls : Array Slot} {i i' : Int} (X : Stand p l e R s m args below meth c T locs cells slots) (hx : p.tables.exec = Jvm.exec) (hby : c.code = bs) (hZ : Z.Warmed39 s.vm) (eT : T.heap = h) (K : Keep hs h [a]) (q : own_pa Z h a k z cs n) (N : Fr n0 locs) (ga : n0 ≤ a) (d1 : decode bs pc = .ok (.dup, 1)) (d2 : decode bs (pc + 1) = .ok (.iconst i, 1)) (d3 : decode bs (pc + 2) = .ok (.bipush i', 2)) (d4 : decode bs (pc + 4) = .ok (.castore, 1)) (j x : Int32) (n' p' : Nat)
    (r : ∀ T' h' L', Stand p l e R s m args below meth c T' L' cells slots → T'.heap = h' → Keep hs h' [a] → own_pa Z h' a k z (cs ++ [x]) n' → Fr n0 L' → own_Fin p.tables e below P T' (mkF m p' Ls [.ref a])) (hq : Int32.ofInt i = j ∧ (Int8.ofInt i').toInt32 = x ∧ n + 1 = n' ∧ pc + 5 = p' ∧ j.toNatClampNeg = n ∧ (¬ j < 0 ∧ j < z) ∧ (¬ x < 0 ∧ ¬ (65535 : Int32) < x) := by decide) : own_Fin p.tables e below P T (mkF m pc Ls [.ref a]) := by
  obtain ⟨r1, r2, r3, r4, hj, hb, hc⟩ := hq
  subst r1 r2 r3 r4
  obtain ⟨T', h', L', X', e', K', P', N', s'⟩ := own_put X hx hZ eT K q N ga (j := (Int32.ofInt i)) (x := (Int8.ofInt i').toInt32) hj hb hc (g := mkF m (pc + 4) Ls [.int (Int8.ofInt i').toInt32, .int (Int32.ofInt i), .ref a, .ref a]) rfl rfl (by rw [hby]; exact d4)
  exact og T' _ (fun t k => XS.dup X.here hx rfl (by rw [hby]; exact d1) rfl rfl (XS.iconst X.here hx rfl (by rw [hby]; exact d2) (XS.bipush X.here hx rfl (by rw [hby]; exact d3) (s' t k)))) (r T' h' L' X' e' K' P' N')
theorem own_ql {P : State → Outcome → Prop} {k : ClassId} {z : Int32} {cs : List Int32} {n : Nat} {bs : ByteArray} {pc : Nat} {Ls : Array Slot} {i : Int} {v : Nat} (X : Stand p l e R s m args below meth c T locs cells slots) (hx : p.tables.exec = Jvm.exec) (hby : c.code = bs) (hZ : Z.Warmed39 s.vm) (eT : T.heap = h) (K : Keep hs h [a]) (q : own_pa Z h a k z cs n) (N : Fr n0 locs) (ga : n0 ≤ a) (d1 : decode bs pc = .ok (.dup, 1)) (d2 : decode bs (pc + 1) = .ok (.bipush i, 2)) (d3 : decode bs (pc + 3) = .ok (.iload v, 2)) (d4 : decode bs (pc + 5) = .ok (.castore, 1)) (j x : Int32) (n' p' : Nat) (hc : ¬ x < 0 ∧ ¬ (65535 : Int32) < x) (hv : Ls[v]? = some (.val (.int x)))
    (r : ∀ T' h' L', Stand p l e R s m args below meth c T' L' cells slots → T'.heap = h' → Keep hs h' [a] → own_pa Z h' a k z (cs ++ [x]) n' → Fr n0 L' → own_Fin p.tables e below P T' (mkF m p' Ls [.ref a])) (hq : (Int8.ofInt i).toInt32 = j ∧ n + 1 = n' ∧ pc + 6 = p' ∧ j.toNatClampNeg = n ∧ (¬ j < 0 ∧ j < z) := by decide) : own_Fin p.tables e below P T (mkF m pc Ls [.ref a]) := by
  obtain ⟨r1, r3, r4, hj, hb⟩ := hq
  subst r1 r3 r4
  obtain ⟨T', h', L', X', e', K', P', N', s'⟩ := own_put X hx hZ eT K q N ga (j := (Int8.ofInt i).toInt32) (x := x) hj hb hc (g := mkF m (pc + 5) Ls [.int x, .int (Int8.ofInt i).toInt32, .ref a, .ref a]) rfl rfl (by rw [hby]; exact d4)
  exact og T' _ (fun t k => XS.dup X.here hx rfl (by rw [hby]; exact d1) rfl rfl (XS.bipush X.here hx rfl (by rw [hby]; exact d2) (XS.iload X.here hx rfl (by rw [hby]; exact d3) hv (s' t k)))) (r T' h' L' X' e' K' P' N')
variable {cs ds q1 q2 : List Int32} {cq ii z : Int32}
/-- the figures of a loop over z elements -/
theorem own_ix (hz : cs.length = z.toNatClampNeg) (z4 : z.toNatClampNeg ≤ 400) (hq : cs = q1 ++ cq :: q2) (hi : ii = Int32.ofNat q1.length) : (¬ ii < 0 ∧ ii < z) ∧ ii.toNatClampNeg = q1.length := by
  have e := congrArg List.length hq
  simp only [List.length_append, List.length_cons] at e
  have e0 : (0 : Int32).toInt = 0 := rfl
  have z1 : (z.toNatClampNeg : Int) ≤ max z.toInt 0 := by simp only [Int32.toNatClampNeg]; omega
  refine ⟨⟨?_, ?_⟩, ?_⟩
  · rw [Int32.lt_iff_toInt_lt, hi, own_ofI (by omega)]; omega
  · rw [Int32.lt_iff_toInt_lt, hi, own_ofI (by omega)]; omega
  · rw [hi, own_ofN4 (by omega)]
theorem own_ixE (hz : cs.length = z.toNatClampNeg) (z4 : z.toNatClampNeg ≤ 400) (z0 : ¬ z < (0 : Int32)) (hi : ii = Int32.ofNat cs.length) : ¬ ii < z := by
  rw [Int32.lt_iff_toInt_lt, hi, own_ofI (by omega), own_natC z0]; omega
theorem own_ixne (hz : cs.length = z.toNatClampNeg) (z4 : z.toNatClampNeg ≤ 400) (hq : cs = q1 ++ cq :: q2) : ¬ (Int32.ofNat q1.length) = z := fun q => by
  have r := (own_ix hz z4 hq rfl).1.2
  rw [q, Int32.lt_iff_toInt_lt] at r; omega
theorem own_cv (hz : cs.length = z.toNatClampNeg) (z4 : z.toNatClampNeg ≤ 400) (hq : cs = q1 ++ cq :: q2) (hi : ii = Int32.ofNat q1.length) : (own_ci cs).getD ii.toNatClampNeg (.int (0 : Int32)) = .int cq := by
  rw [(own_ix hz z4 hq hi).2, hq]
  simp [own_ci, List.getD_eq_getElem?_getD, List.getElem?_append_right]
theorem own_bv (hz : cs.length = z.toNatClampNeg) (z4 : z.toNatClampNeg ≤ 400) (hq : cs = q1 ++ cq :: q2) (hi : ii = Int32.ofNat q1.length) : (own_by cs).getD ii.toNatClampNeg (.int (0 : Int32)) = .int (cq.toInt8.toInt32) := by
  rw [(own_ix hz z4 hq hi).2, hq]
  simp [own_by, List.getD_eq_getElem?_getD, List.getElem?_append_right]
theorem own_by8 {k : ClassId} {y : Int32} {d : Value} (V : Arv Z h a k .byte y (own_by (q1 ++ [cq.toInt8.toInt32])) d) : Arv Z h a k .byte y (own_by (q1 ++ [cq])) d := by
  have e : own_by (q1 ++ [cq]) = own_by (q1 ++ [cq.toInt8.toInt32]) := by simp [own_by]
  rw [e]; exact V
theorem own_latS (l : own_lat q1) (h0 : ¬ cq < 0) (h1 : ¬ (255 : Int32) < cq) : own_lat (q1 ++ [cq]) := own_happ l fun c hc => by rw [List.mem_singleton.mp hc]; exact ⟨h0, h1⟩
theorem own_latN : own_lat ([] : List Int32) := fun _ q => nomatch q
theorem own_chm (hch : ∀ c ∈ cs, ¬ c < 0 ∧ ¬ (65535 : Int32) < c) (hq : cs = q1 ++ cq :: q2) : ¬ cq < 0 ∧ ¬ (65535 : Int32) < cq := hch cq (by rw [hq]; simp)
theorem own_nlx (hq : cs = q1 ++ cq :: q2) (r : (255 : Int32) < cq) : ∃ c ∈ cs, (255 : Int32) < c := ⟨cq, by rw [hq]; simp, r⟩
theorem own_labs (l : own_lat cs) (r : ∃ c ∈ cs, (255 : Int32) < c) : False := by obtain ⟨c, q, r⟩ := r; exact (l c q).2 r
theorem own_dj0 (hi : ii = Int32.ofNat q1.length) : ii = Int32.ofNat ((0 : Int32).toNatClampNeg + q1.length) := by
  rw [hi, show (0 : Int32).toNatClampNeg = 0 from rfl, Nat.zero_add]
theorem own_u_get (q1 q2 : List Int32) (c : Int32) : (own_by (own_u (q1 ++ c :: q2))).getD (2 * q1.length) (.int (0 : Int32)) = .int ((c >>> ((0 : Int32) &&& 31)).toInt8.toInt32) ∧ (own_by (own_u (q1 ++ c :: q2))).getD (2 * q1.length + 1) (.int (0 : Int32)) = .int ((c >>> ((8 : Int32) &&& 31)).toInt8.toInt32) := by
  have e : own_u (q1 ++ c :: q2) = own_u q1 ++ ((c >>> ((0 : Int32) &&& 31)).toInt8.toInt32 :: (c >>> ((8 : Int32) &&& 31)).toInt8.toInt32 :: own_u q2) := by rw [own_u_app]; rfl
  have n : (own_u q1).length = 2 * q1.length := own_ul rfl
  rw [e]
  constructor
  · simp [own_by, List.getD_eq_getElem?_getD, List.getElem?_append_right, n]
  · simp [own_by, List.getD_eq_getElem?_getD, List.getElem?_append_right, n]
/-- the places of a char's two bytes -/
theorem own_ux {y : Int32} (hz : cs.length = z.toNatClampNeg) (z4 : z.toNatClampNeg ≤ 199) (hy : y.toNatClampNeg = 2 * z.toNatClampNeg) (hq : cs = q1 ++ cq :: q2) (hi : ii = Int32.ofNat q1.length) :
    ((¬ (ii <<< ((1 : Int32) &&& 31)) < 0 ∧ (ii <<< ((1 : Int32) &&& 31)) < y) ∧ (own_by (own_u cs)).getD (ii <<< ((1 : Int32) &&& 31)).toNatClampNeg (.int (0 : Int32)) = .int ((cq >>> ((0 : Int32) &&& 31)).toInt8.toInt32)) ∧
    ((¬ ((ii <<< ((1 : Int32) &&& 31)) + (1 : Int32)) < 0 ∧ ((ii <<< ((1 : Int32) &&& 31)) + (1 : Int32)) < y) ∧ (own_by (own_u cs)).getD ((ii <<< ((1 : Int32) &&& 31)) + (1 : Int32)).toNatClampNeg (.int (0 : Int32)) = .int ((cq >>> ((8 : Int32) &&& 31)).toInt8.toInt32)) := by
  have e := congrArg List.length hq
  simp only [List.length_append, List.length_cons] at e
  have e0 : (0 : Int32).toInt = 0 := rfl
  have z1 : (y.toNatClampNeg : Int) ≤ max y.toInt 0 := by simp only [Int32.toNatClampNeg]; omega
  obtain ⟨s1, s2⟩ := own_shl (k := q1.length) (by omega)
  rw [← hi] at s1 s2
  obtain ⟨g1, g2⟩ := own_u_get q1 q2 cq
  have t1 : (ii <<< ((1 : Int32) &&& 31)).toNatClampNeg = 2 * q1.length := by simp only [Int32.toNatClampNeg] at s1 ⊢; rw [s1]; omega
  have t2 : ((ii <<< ((1 : Int32) &&& 31)) + (1 : Int32)).toNatClampNeg = 2 * q1.length + 1 := by simp only [Int32.toNatClampNeg] at s2 ⊢; rw [s2]; omega
  refine ⟨⟨⟨?_, ?_⟩, ?_⟩, ⟨?_, ?_⟩, ?_⟩
  · rw [Int32.lt_iff_toInt_lt, s1]; omega
  · rw [Int32.lt_iff_toInt_lt, s1]; omega
  · rw [t1, hq]; exact g1
  · rw [Int32.lt_iff_toInt_lt, s2]; omega
  · rw [Int32.lt_iff_toInt_lt, s2]; omega
  · rw [t2, hq]; exact g2
theorem own_g1 (x y : Fin 256) : ((Int32.ofNat (256 * x.val + y.val)) >>> ((0 : Int32) &&& 31)).toInt8 = Int8.ofNat y.val := by
  apply Int8.toBitVec_inj.mp
  rw [show ((0 : Int32) &&& 31) = 0 from by decide]
  apply BitVec.eq_of_toNat_eq
  simp
theorem own_g2 (x y : Fin 256) : ((Int32.ofNat (256 * x.val + y.val)) >>> ((8 : Int32) &&& 31)).toInt8 = Int8.ofNat x.val := by
  apply Int8.toBitVec_inj.mp
  have e : ((Int32.ofNat (256 * x.val + y.val)) >>> ((8 : Int32) &&& 31)).toBitVec = (BitVec.ofNat 32 (256 * x.val + y.val)).sshiftRight 8 := rfl
  have m : (BitVec.ofNat 32 (256 * x.val + y.val)).msb = false := by
    rw [BitVec.msb_eq_false_iff_two_mul_lt, BitVec.toNat_ofNat]; omega
  rw [Int32.toBitVec_toInt8, e, BitVec.sshiftRight_eq_of_msb_false m, BitVec.signExtend_eq_setWidth_of_le _ (by omega)]
  apply BitVec.eq_of_toNat_eq
  simp [Nat.shiftRight_eq_div_pow]
  omega
theorem own_g3 : ∀ y : Fin 256, (Int8.ofNat y.val).toInt32 &&& (255 : Int32) = Int32.ofNat y.val := by decide +kernel
theorem own_g4 : ∀ y : Fin 256, Int32.ofNat y.val <<< ((0 : Int32) &&& 31) = Int32.ofNat y.val := by decide +kernel
theorem own_g5 : ∀ y : Fin 256, Int32.ofNat y.val <<< ((8 : Int32) &&& 31) = Int32.ofNat (256 * y.val) := by decide +kernel
theorem own_g6 (x y : Fin 256) : Int32.ofNat y.val ||| Int32.ofNat (256 * x.val) = Int32.ofNat (256 * x.val + y.val) := by
  apply Int32.toBitVec_inj.mp
  show BitVec.ofNat 32 y.val ||| BitVec.ofNat 32 (256 * x.val) = BitVec.ofNat 32 (256 * x.val + y.val)
  apply BitVec.eq_of_toNat_eq
  rw [BitVec.toNat_or, BitVec.toNat_ofNat, BitVec.toNat_ofNat, BitVec.toNat_ofNat, Nat.mod_eq_of_lt (by omega), Nat.mod_eq_of_lt (by omega), Nat.mod_eq_of_lt (by omega), Nat.or_comm]
  have := Nat.two_pow_add_eq_or_of_lt (i := 8) (b := y.val) (by omega) x.val
  exact this.symm
theorem own_gch {c : Int32} (hc : ¬ c < 0 ∧ ¬ (65535 : Int32) < c) : (((((c >>> ((0 : Int32) &&& 31)).toInt8.toInt32) &&& (255 : Int32)) <<< ((0 : Int32) &&& 31)) ||| ((((c >>> ((8 : Int32) &&& 31)).toInt8.toInt32) &&& (255 : Int32)) <<< ((8 : Int32) &&& 31))) = c := by
  obtain ⟨x, y, rfl⟩ := own_ch16 hc
  rw [own_g1, own_g2, own_g3, own_g3, own_g4, own_g5, own_g6]
theorem own_l16 {x : Int32} (q : ¬ x < 0 ∧ ¬ (255 : Int32) < x) : ¬ x < 0 ∧ ¬ (65535 : Int32) < x := by
  refine ⟨q.1, fun r => q.2 ?_⟩
  rw [Int32.lt_iff_toInt_lt] at r ⊢
  have e1 : (65535 : Int32).toInt = 65535 := rfl
  have e2 : (255 : Int32).toInt = 255 := rfl
  omega
theorem own_i2c (x : Int32) : ¬ x.toUInt32.toUInt16.toUInt32.toInt32 < 0 ∧ ¬ (65535 : Int32) < x.toUInt32.toUInt16.toUInt32.toInt32 := by
  have h := x.toUInt32.toUInt16.toNat_lt
  have e : (x.toUInt32.toUInt16.toUInt32.toInt32).toInt = x.toUInt32.toUInt16.toNat := by
    have e2 : x.toUInt32.toUInt16.toUInt32.toBitVec.toNat = x.toUInt32.toUInt16.toNat := by show x.toUInt32.toUInt16.toUInt32.toNat = _; simp
    show x.toUInt32.toUInt16.toUInt32.toBitVec.toInt = _
    rw [BitVec.toInt_eq_toNat_of_lt (by rw [e2]; omega), e2]
  have e0 : (0 : Int32).toInt = 0 := rfl
  have e1 : (65535 : Int32).toInt = 65535 := rfl
  rw [Int32.lt_iff_toInt_lt, Int32.lt_iff_toInt_lt, e, e0, e1]
  omega
theorem own_l1 {x : Int32} (q : x < (1 : Int32)) : ¬ (9 : Int32) < x := by
  rw [Int32.lt_iff_toInt_lt] at q ⊢
  have e1 : (1 : Int32).toInt = 1 := rfl
  have e2 : (9 : Int32).toInt = 9 := rfl
  omega
theorem own_l9 (x : Int32) : ¬ (9 : Int32) < (1 : Int32) + x % (9 : Int32) := by
  have e2 : (9 : Int32).toInt = 9 := rfl
  have e1 : (1 : Int32).toInt = 1 := rfl
  have a := Int.tmod_lt_of_pos x.toInt (show (0 : Int) < 9 by decide)
  have b := Int.lt_tmod_of_pos x.toInt (show (0 : Int) < 9 by decide)
  rw [Int32.lt_iff_toInt_lt, Int32.toInt_add, Int32.toInt_mod, e1, e2, Int.bmod_eq_of_le (by omega) (by omega)]
  omega
theorem own_ulz {cs : List Int32} {m y : Int32} (q : cs.length = m.toNatClampNeg) (r : (2 * m.toNatClampNeg) = y.toNatClampNeg) : (own_u cs).length = y.toNatClampNeg := (own_ul q).trans r
end OwnL
abbrev y0 : MethodName := ⟨"java/lang/StringUTF16", "putChar", "([BII)V"⟩
abbrev y1 : MethodName := ⟨"java/lang/StringLatin1", "canEncode", "(C)Z"⟩
abbrev y2 : MethodName := ⟨"java/lang/StringUTF16", "toBytes", "(C)[B"⟩
abbrev y3 : MethodName := ⟨"java/lang/String", "<init>", "([BB)V"⟩
abbrev y4 : MethodName := ⟨"java/lang/StringLatin1", "toBytes", "(C)[B"⟩
abbrev y5 : MethodName := ⟨"java/lang/String", "valueOf", "(C)Ljava/lang/String;"⟩
abbrev y6 : MethodName := ⟨"java/lang/Record", "<init>", "()V"⟩
abbrev y7 : MethodName := ⟨"com/example/oyster/oyster/XmlElement", "<init>", "(Ljava/lang/String;Ljava/util/Map;Ljava/lang/String;Ljava/util/List;Ljava/lang/String;I)V"⟩
abbrev y8 : MethodName := ⟨"java/lang/AbstractStringBuilder", "<init>", "(I)V"⟩
abbrev y9 : MethodName := ⟨"java/lang/StringBuilder", "<init>", "()V"⟩
abbrev y10 : MethodName := ⟨"java/lang/String", "coder", "()B"⟩
abbrev y11 : MethodName := ⟨"java/lang/String", "length", "()I"⟩
abbrev y12 : MethodName := ⟨"java/lang/AbstractStringBuilder", "ensureCapacityInternal", "(I)V"⟩
abbrev y13 : MethodName := ⟨"java/lang/AbstractStringBuilder", "inflateIfNeededFor", "(Ljava/lang/String;)V"⟩
abbrev y14 : MethodName := ⟨"java/lang/String", "getBytes", "([BIB)V"⟩
abbrev y15 : MethodName := ⟨"java/lang/AbstractStringBuilder", "isLatin1", "()Z"⟩
abbrev y16 : MethodName := ⟨"java/lang/StringUTF16", "newBytesLength", "(I)I"⟩
abbrev y17 : MethodName := ⟨"java/lang/StringUTF16", "newBytesFor", "(I)[B"⟩
abbrev y18 : MethodName := ⟨"java/lang/StringUTF16", "length", "([B)I"⟩
abbrev y19 : MethodName := ⟨"jdk/internal/util/Preconditions", "checkFromIndexSize", "(IIILjava/util/function/BiFunction;)I"⟩
abbrev y20 : MethodName := ⟨"java/lang/String", "checkBoundsOffCount", "(III)I"⟩
abbrev y21 : MethodName := ⟨"java/lang/StringUTF16", "checkBoundsOffCount", "(II[B)V"⟩
abbrev y22 : MethodName := ⟨"java/lang/StringUTF16", "inflate", "([BI[BII)V"⟩
abbrev y23 : MethodName := ⟨"java/lang/StringLatin1", "inflate", "([BI[BII)V"⟩
abbrev y24 : MethodName := ⟨"java/lang/AbstractStringBuilder", "inflate", "()V"⟩
abbrev y25 : MethodName := ⟨"java/lang/AbstractStringBuilder", "putStringAt", "(ILjava/lang/String;)V"⟩
abbrev y26 : MethodName := ⟨"java/lang/AbstractStringBuilder", "append", "(Ljava/lang/String;)Ljava/lang/AbstractStringBuilder;"⟩
abbrev y27 : MethodName := ⟨"java/lang/StringBuilder", "append", "(Ljava/lang/String;)Ljava/lang/StringBuilder;"⟩
abbrev y28 : MethodName := ⟨"java/lang/Math", "max", "(II)I"⟩
abbrev y29 : MethodName := ⟨"jdk/internal/util/ArraysSupport", "newLength", "(III)I"⟩
abbrev y30 : MethodName := ⟨"java/lang/AbstractStringBuilder", "newCapacity", "(I)I"⟩
abbrev y31 : MethodName := ⟨"java/lang/Math", "min", "(II)I"⟩
abbrev y32 : MethodName := ⟨"java/util/Arrays", "copyOf", "([BI)[B"⟩
abbrev y33 : MethodName := ⟨"java/lang/AbstractStringBuilder", "getValue", "()[B"⟩
abbrev y34 : MethodName := ⟨"java/lang/AbstractStringBuilder", "length", "()I"⟩
abbrev y35 : MethodName := ⟨"java/lang/StringBuilder", "length", "()I"⟩
abbrev y36 : MethodName := ⟨"java/util/Arrays", "checkLength", "(II)V"⟩
abbrev y37 : MethodName := ⟨"java/util/Arrays", "copyOfRangeByte", "([BII)[B"⟩
abbrev y38 : MethodName := ⟨"java/util/Arrays", "copyOfRange", "([BII)[B"⟩
abbrev y39 : MethodName := ⟨"java/lang/String", "<init>", "(Ljava/lang/AbstractStringBuilder;Ljava/lang/Void;)V"⟩
abbrev y40 : MethodName := ⟨"java/lang/String", "<init>", "(Ljava/lang/StringBuilder;)V"⟩
abbrev y41 : MethodName := ⟨"java/lang/StringBuilder", "toString", "()Ljava/lang/String;"⟩
abbrev y42 : MethodName := ⟨"java/lang/Throwable", "<init>", "(Ljava/lang/String;Ljava/lang/Throwable;)V"⟩
abbrev y43 : MethodName := ⟨"java/lang/Exception", "<init>", "(Ljava/lang/String;Ljava/lang/Throwable;)V"⟩
abbrev y44 : MethodName := ⟨"java/lang/RuntimeException", "<init>", "(Ljava/lang/String;Ljava/lang/Throwable;)V"⟩
abbrev y45 : MethodName := ⟨"java/lang/Integer", "stringSize", "(I)I"⟩
abbrev y46 : MethodName := ⟨"java/lang/Integer", "getChars", "(II[B)I"⟩
abbrev y47 : MethodName := ⟨"java/lang/AbstractStringBuilder", "append", "(I)Ljava/lang/AbstractStringBuilder;"⟩
abbrev y48 : MethodName := ⟨"java/lang/StringBuilder", "append", "(I)Ljava/lang/StringBuilder;"⟩
abbrev y49 : MethodName := ⟨"com/example/oyster/oyster/XmlDefinitionException", "<init>", "(Ljava/lang/String;ILjava/lang/String;Ljava/lang/Throwable;)V"⟩
abbrev y50 : MethodName := ⟨"com/example/oyster/oyster/XmlElement", "refusal", "(Ljava/lang/String;Ljava/lang/Throwable;)Lcom/example/oyster/oyster/XmlDefinitionException;"⟩
abbrev y51 : MethodName := ⟨"com/example/oyster/oyster/XmlElement", "unread", "(Ljava/lang/String;Ljava/lang/String;)Lcom/example/oyster/oyster/XmlDefinitionException;"⟩
abbrev y52 : MethodName := ⟨"com/example/oyster/oyster/XmlDefinitionException", "getCause", "()Ljava/lang/Throwable;"⟩
abbrev y53 : MethodName := ⟨"java/lang/Throwable", "getCause", "()Ljava/lang/Throwable;"⟩
abbrev y54 : MethodName := ⟨"java/lang/StringUTF16", "compress", "([CI[BII)I"⟩
abbrev y55 : MethodName := ⟨"java/lang/StringUTF16", "toBytes", "([CII)[B"⟩
abbrev y56 : MethodName := ⟨"java/lang/StringUTF16", "getChar", "([BI)C"⟩
abbrev y57 : MethodName := ⟨"java/lang/StringUTF16", "compress", "([CII)[B"⟩
abbrev y58 : MethodName := ⟨"java/lang/StringUTF16", "coderFromArrayLen", "([BI)B"⟩
abbrev y59 : MethodName := ⟨"java/lang/String", "<init>", "([CIILjava/lang/Void;)V"⟩
abbrev y60 : MethodName := ⟨"java/lang/String", "<init>", "([C)V"⟩
abbrev y61 : MethodName := ⟨"java/lang/Throwable", "getMessage", "()Ljava/lang/String;"⟩
abbrev y62 : MethodName := ⟨"com/example/oyster/oyster/XmlDefinitionException", "getMessage", "()Ljava/lang/String;"⟩
abbrev y63 : MethodName := ⟨"java/lang/StringLatin1", "equals", "([B[B)Z"⟩
abbrev y64 : MethodName := ⟨"java/lang/String", "equals", "(Ljava/lang/Object;)Z"⟩
section
variable {p : Program} {l : Launch} {e : Env} {R : Room} {s : State} {m : MethodId} {args : Array Value} {below : List Frame} {meth : Method} {c : Code} {T T' U Z : State} {locs : List Loc} {cells slots : Nat} {h h' h0 : Heap} {a b : Addr} {n0 : Nat}
theorem qa (X : Stand p l e R s m args below meth c T locs cells slots) (hx : p.tables.exec = Jvm.exec) {bs : ByteArray} (hby : c.code = bs) {g : JFrame} {k : Fin 4} {v : Value} {t : State} (hd : decode bs g.pc = .ok (.aload_n k, 1)) (hg : g.method = m) (hl : g.locals[k.val]? = some (.val v)) (hv : v.isRef = true) (hr : Steps p.tables e below (T.setTop { g with pc := g.pc + 1, stack := v :: g.stack }) t) : Steps p.tables e below (T.setTop g) t := XS.aloadN X.here hx hg (hb hby hd) hl hv hr
theorem qi (X : Stand p l e R s m args below meth c T locs cells slots) (hx : p.tables.exec = Jvm.exec) {bs : ByteArray} (hby : c.code = bs) {g : JFrame} {k : Fin 4} {v : Int32} {t : State} (hd : decode bs g.pc = .ok (.iload_n k, 1)) (hg : g.method = m) (hl : g.locals[k.val]? = some (.val (.int v))) (hr : Steps p.tables e below (T.setTop { g with pc := g.pc + 1, stack := .int v :: g.stack }) t) : Steps p.tables e below (T.setTop g) t := XS.iloadN X.here hx hg (hb hby hd) hl hr
theorem qb (X : Stand p l e R s m args below meth c T locs cells slots) (hx : p.tables.exec = Jvm.exec) {bs : ByteArray} (hby : c.code = bs) {g : JFrame} {i : Int} {t : State} (hd : decode bs g.pc = .ok (.bipush i, 2)) (hg : g.method = m) (hr : Steps p.tables e below (T.setTop { g with pc := g.pc + 2, stack := .int (Int8.ofInt i).toInt32 :: g.stack }) t) : Steps p.tables e below (T.setTop g) t := XS.bipush X.here hx hg (hb hby hd) hr
theorem qc (X : Stand p l e R s m args below meth c T locs cells slots) (hx : p.tables.exec = Jvm.exec) {bs : ByteArray} (hby : c.code = bs) {g : JFrame} {i : Int} {t : State} (hd : decode bs g.pc = .ok (.iconst i, 1)) (hg : g.method = m) (hr : Steps p.tables e below (T.setTop { g with pc := g.pc + 1, stack := .int (Int32.ofInt i) :: g.stack }) t) : Steps p.tables e below (T.setTop g) t := XS.iconst X.here hx hg (hb hby hd) hr
theorem qn (X : Stand p l e R s m args below meth c T locs cells slots) (hx : p.tables.exec = Jvm.exec) {bs : ByteArray} (hby : c.code = bs) {g : JFrame} {cd : ClassFile.Cond} {o : Int} {x y : Int32} {rest : List Value} {t : State} (hd : decode bs g.pc = .ok (.if_icmp cd o, 3)) (hg : g.method = m) (hs : g.stack = .int y :: .int x :: rest) (hc : if_icmp.holds cd x y = false) (hr : Steps p.tables e below (T.setTop { g with pc := g.pc + 3, stack := rest }) t) : Steps p.tables e below (T.setTop g) t := XS.icmpNo X.here hx hg (hb hby hd) hs hc hr
theorem qp (X : Stand p l e R s m args below meth c T locs cells slots) (hx : p.tables.exec = Jvm.exec) {bs : ByteArray} (hby : c.code = bs) {g : JFrame} {x y : Int32} {rest : List Value} {t : State} (hd : decode bs g.pc = .ok (.iadd, 1)) (hg : g.method = m) (hs : g.stack = .int y :: .int x :: rest) (hr : Steps p.tables e below (T.setTop { g with pc := g.pc + 1, stack := .int (x + y) :: rest }) t) : Steps p.tables e below (T.setTop g) t := XS.iadd X.here hx hg (hb hby hd) hs hr
theorem qf (X : Stand p l e R s m args below meth c T locs cells slots) (hx : p.tables.exec = Jvm.exec) {a0 : Array Value} {C : String} (hZ : Z.Warmed39 s.vm) {own n d : String} {index : Nat} (hown : s.vm.findClass own = some m.cls) (hl : (Cond.fieldLink own index C n d).before a0 Z = true) (eT : T.heap = h) {v : Value} (F : Fld Z h a C n d v) {g : JFrame} {rest : List Value} (hg : g.method = m) (hs : g.stack = .ref a :: rest) {bs : ByteArray} (hby : c.code = bs) (hd : decode bs g.pc = .ok (.getfield index, 3)) : ∃ T', Stand p l e R s m args below meth c T' locs cells slots ∧ T'.heap = h ∧ ∀ target, Steps p.tables e below (T'.setTop { g with pc := g.pc + 3, stack := v :: rest }) target → Steps p.tables e below (T.setTop g) target := getF X hx hZ hown (host := "") (Or.inl hl) Via.refl eT F hg hs (hb hby hd)
theorem zs {g : JFrame} {n : Nat} (q : c.maxLocals = n) (r : g.locals.size = n := by rfl) : g.locals.size = c.maxLocals := r.trans q.symm
theorem tq (n : Int32) : if_icmp.holds .ne n n = false := (teq rfl).2
theorem own_ra (X : Stand p l e R s m args below meth c T locs cells slots) (hx : p.tables.exec = Jvm.exec) {pc : Nat} {Ls : Array Slot} {w : Value} {t : FieldType} {rest : List Value} (hret : meth.sig.returnType = some t) (hn : narrow t w = w) (ht : t.isReference = true) (hw : w.isRef = true) (hd : decode c.code pc = .ok (.areturn, 1)) (fs : List Frame) (hl : ∀ (f : JFrame) (acts : List Action), f.method = m → f.locked = none → f.entered = [] → (doReturn e (T.setTop f) acts (some w)).1 = T.setFrames fs) : Steps p.tables e below (T.setTop (mkF m pc Ls (w :: rest))) (T.setFrames fs) := retOut X hx hret hn (Or.inr (Or.inr (Or.inr (Or.inr ⟨rfl, ht, hw⟩)))) hd hl
abbrev own_L (cs : List Int32) : Prop := ∀ c ∈ cs, ¬ c < 0 ∧ ¬ (255 : Int32) < c
end
theorem ow {Z : State} {a0 : Array Value} (hw : ∀ d ∈ tables_1, d.before a0 Z = true) (i : Nat) {d : Jvm.Cond} (q : tables_1[i]? = some d := by rfl) : d.before a0 Z = true := hw d (List.mem_of_getElem? q)
abbrev B0' : ByteArray := jdk_42_method_139_code
abbrev B1' : ByteArray := jdk_43_method_3_code
abbrev B2' : ByteArray := jdk_43_method_46_code
abbrev B3' : ByteArray := jdk_42_method_151_code
abbrev B4' : ByteArray := prog_28_method_1_code
abbrev B5' : ByteArray := jdk_30_method_1_code
abbrev B6' : ByteArray := prog_28_method_11_code
abbrev B7' : ByteArray := jdk_67_method_1_code
abbrev B8' : ByteArray := jdk_68_method_2_code
abbrev B9' : ByteArray := jdk_67_method_7_code
abbrev B10' : ByteArray := jdk_68_method_22_code
abbrev B11' : ByteArray := jdk_42_method_54_code
abbrev B12' : ByteArray := jdk_42_method_152_code
abbrev B13' : ByteArray := jdk_68_method_9_code
abbrev B14' : ByteArray := jdk_68_method_73_code
abbrev B15' : ByteArray := jdk_68_method_71_code
abbrev B16' : ByteArray := jdk_42_method_147_code
abbrev B17' : ByteArray := jdk_68_method_10_code
abbrev B18' : ByteArray := jdk_48_method_27_code
abbrev B19' : ByteArray := jdk_29_method_65_code
abbrev B20' : ByteArray := jdk_65_method_121_code
abbrev B21' : ByteArray := jdk_29_method_69_code
abbrev B22' : ByteArray := jdk_67_method_42_code
abbrev B23' : ByteArray := jdk_42_method_53_code
abbrev B24' : ByteArray := jdk_42_method_150_code
abbrev B25' : ByteArray := jdk_68_method_64_code
abbrev B26' : ByteArray := jdk_67_method_93_code
abbrev B27' : ByteArray := jdk_68_method_6_code
abbrev B28' : ByteArray := jdk_68_method_68_code
abbrev B29' : ByteArray := jdk_65_method_132_code
abbrev B30' : ByteArray := jdk_65_method_133_code
abbrev B31' : ByteArray := jdk_65_method_131_code
abbrev B32' : ByteArray := prog_28_method_3_code
abbrev B33' : ByteArray := prog_27_method_1_code
abbrev B34' : ByteArray := jdk_58_method_3_code
abbrev B35' : ByteArray := jdk_59_method_3_code
abbrev B36' : ByteArray := jdk_78_method_3_code
abbrev B37' : ByteArray := jdk_42_method_3_code
abbrev B38' : ByteArray := jdk_42_method_149_code
abbrev B39' : ByteArray := jdk_52_method_16_code
abbrev B40' : ByteArray := jdk_52_method_21_code
abbrev B41' : ByteArray := jdk_52_method_15_code
abbrev B42' : ByteArray := jdk_78_method_6_code
abbrev B43' : ByteArray := jdk_42_method_66_code
abbrev B44' : ByteArray := jdk_43_method_13_code
abbrev B45' : ByteArray := jdk_67_method_15_code
abbrev B46' : ByteArray := jdk_68_method_32_code
abbrev B47' : ByteArray := jdk_33_method_13_code
abbrev B48' : ByteArray := jdk_33_method_12_code
abbrev B49' : ByteArray := jdk_52_method_24_code
abbrev B50' : ByteArray := jdk_52_method_4_code
abbrev B51' : ByteArray := jdk_68_method_11_code
abbrev B52' : ByteArray := jdk_52_method_2_code
abbrev B53' : ByteArray := jdk_52_method_3_code
abbrev B54' : ByteArray := jdk_43_method_50_code
abbrev B55' : ByteArray := jdk_52_method_86_code
abbrev B56' : ByteArray := jdk_52_method_94_code
abbrev B57' : ByteArray := jdk_52_method_6_code
abbrev B58' : ByteArray := jdk_42_method_157_code
abbrev B59' : ByteArray := jdk_41_method_13_code
abbrev B60' : ByteArray := jdk_52_method_14_code
abbrev B61' : ByteArray := jdk_52_method_5_code
abbrev cL0 : List Int32 := [99, 97, 110, 110, 111, 116, 32, 114, 101, 97, 100, 32]
abbrev cL1 : List Int32 := [58, 32, 116, 104, 101, 32, 101, 108, 101, 109, 101, 110, 116, 32, 60]
abbrev cL2 : List Int32 := [62, 32, 105, 115, 32, 110, 111, 116, 32, 114, 101, 97, 100, 58, 32]
abbrev cL3 : List Int32 := [44, 32, 108, 105, 110, 101, 32]
theorem d1_0 : decode B0' 0 = .ok (.getstatic 38, 3) := by decide +kernel
theorem d1_3 : decode B0' 3 = .ok (.ifCond .eq 23, 3) := by decide +kernel
theorem d1_6 : decode B0' 6 = .ok (.iload_n 0, 1) := by decide +kernel
theorem d1_7 : decode B0' 7 = .ok (.invokestatic 1015, 3) := by decide +kernel
theorem d1_10 : decode B0' 10 = .ok (.ifCond .eq 16, 3) := by decide +kernel
theorem d1_13 : decode B0' 13 = .ok (.new 10, 3) := by decide +kernel
theorem d1_16 : decode B0' 16 = .ok (.dup, 1) := by decide +kernel
theorem d1_17 : decode B0' 17 = .ok (.iload_n 0, 1) := by decide +kernel
theorem d1_18 : decode B0' 18 = .ok (.invokestatic 1018, 3) := by decide +kernel
theorem d1_21 : decode B0' 21 = .ok (.iconst 0, 1) := by decide +kernel
theorem d1_22 : decode B0' 22 = .ok (.invokespecial 209, 3) := by decide +kernel
theorem d1_25 : decode B0' 25 = .ok (.areturn, 1) := by decide +kernel
theorem d1_26 : decode B0' 26 = .ok (.new 10, 3) := by decide +kernel
theorem d1_29 : decode B0' 29 = .ok (.dup, 1) := by decide +kernel
theorem d1_30 : decode B0' 30 = .ok (.iload_n 0, 1) := by decide +kernel
theorem d1_31 : decode B0' 31 = .ok (.invokestatic 1021, 3) := by decide +kernel
theorem d1_34 : decode B0' 34 = .ok (.iconst 1, 1) := by decide +kernel
theorem d1_35 : decode B0' 35 = .ok (.invokespecial 209, 3) := by decide +kernel
theorem d1_38 : decode B0' 38 = .ok (.areturn, 1) := by decide +kernel
theorem d2_0 : decode B1' 0 = .ok (.iload_n 0, 1) := by decide +kernel
theorem d2_1 : decode B1' 1 = .ok (.sipush 255, 3) := by decide +kernel
theorem d2_4 : decode B1' 4 = .ok (.if_icmp .gt 7, 3) := by decide +kernel
theorem d2_7 : decode B1' 7 = .ok (.iconst 1, 1) := by decide +kernel
theorem d2_8 : decode B1' 8 = .ok (.goto 4, 3) := by decide +kernel
theorem d2_11 : decode B1' 11 = .ok (.iconst 0, 1) := by decide +kernel
theorem d2_12 : decode B1' 12 = .ok (.ireturn, 1) := by decide +kernel
theorem d3_0 : decode B2' 0 = .ok (.iconst 1, 1) := by decide +kernel
theorem d3_1 : decode B2' 1 = .ok (.newarray .byte, 2) := by decide +kernel
theorem d3_3 : decode B2' 3 = .ok (.dup, 1) := by decide +kernel
theorem d3_4 : decode B2' 4 = .ok (.iconst 0, 1) := by decide +kernel
theorem d3_5 : decode B2' 5 = .ok (.iload_n 0, 1) := by decide +kernel
theorem d3_6 : decode B2' 6 = .ok (.i2b, 1) := by decide +kernel
theorem d3_7 : decode B2' 7 = .ok (.bastore, 1) := by decide +kernel
theorem d3_8 : decode B2' 8 = .ok (.areturn, 1) := by decide +kernel
theorem d4_0 : decode B3' 0 = .ok (.aload_n 0, 1) := by decide +kernel
theorem d4_1 : decode B3' 1 = .ok (.invokespecial 1, 3) := by decide +kernel
theorem d4_4 : decode B3' 4 = .ok (.aload_n 0, 1) := by decide +kernel
theorem d4_5 : decode B3' 5 = .ok (.aload_n 1, 1) := by decide +kernel
theorem d4_6 : decode B3' 6 = .ok (.putfield 9, 3) := by decide +kernel
theorem d4_9 : decode B3' 9 = .ok (.aload_n 0, 1) := by decide +kernel
theorem d4_10 : decode B3' 10 = .ok (.iload_n 2, 1) := by decide +kernel
theorem d4_11 : decode B3' 11 = .ok (.putfield 15, 3) := by decide +kernel
theorem d4_14 : decode B3' 14 = .ok (.return_, 1) := by decide +kernel
theorem d6_0 : decode B4' 0 = .ok (.aload_n 0, 1) := by decide +kernel
theorem d6_1 : decode B4' 1 = .ok (.invokespecial 1, 3) := by decide +kernel
theorem d6_4 : decode B4' 4 = .ok (.aload_n 0, 1) := by decide +kernel
theorem d6_5 : decode B4' 5 = .ok (.aload_n 1, 1) := by decide +kernel
theorem d6_6 : decode B4' 6 = .ok (.putfield 7, 3) := by decide +kernel
theorem d6_9 : decode B4' 9 = .ok (.aload_n 0, 1) := by decide +kernel
theorem d6_10 : decode B4' 10 = .ok (.aload_n 2, 1) := by decide +kernel
theorem d6_11 : decode B4' 11 = .ok (.putfield 13, 3) := by decide +kernel
theorem d6_14 : decode B4' 14 = .ok (.aload_n 0, 1) := by decide +kernel
theorem d6_15 : decode B4' 15 = .ok (.aload_n 3, 1) := by decide +kernel
theorem d6_16 : decode B4' 16 = .ok (.putfield 17, 3) := by decide +kernel
theorem d6_19 : decode B4' 19 = .ok (.aload_n 0, 1) := by decide +kernel
theorem d6_20 : decode B4' 20 = .ok (.aload 4, 2) := by decide +kernel
theorem d6_22 : decode B4' 22 = .ok (.putfield 20, 3) := by decide +kernel
theorem d6_25 : decode B4' 25 = .ok (.aload_n 0, 1) := by decide +kernel
theorem d6_26 : decode B4' 26 = .ok (.aload 5, 2) := by decide +kernel
theorem d6_28 : decode B4' 28 = .ok (.putfield 24, 3) := by decide +kernel
theorem d6_31 : decode B4' 31 = .ok (.aload_n 0, 1) := by decide +kernel
theorem d6_32 : decode B4' 32 = .ok (.iload 6, 2) := by decide +kernel
theorem d6_34 : decode B4' 34 = .ok (.putfield 27, 3) := by decide +kernel
theorem d6_37 : decode B4' 37 = .ok (.return_, 1) := by decide +kernel
theorem d7_0 : decode B5' 0 = .ok (.aload_n 0, 1) := by decide +kernel
theorem d7_1 : decode B5' 1 = .ok (.invokespecial 1, 3) := by decide +kernel
theorem d7_4 : decode B5' 4 = .ok (.return_, 1) := by decide +kernel
theorem d8_0 : decode B6' 0 = .ok (.aload_n 0, 1) := by decide +kernel
theorem d8_1 : decode B6' 1 = .ok (.new 104, 3) := by decide +kernel
theorem d8_4 : decode B6' 4 = .ok (.dup, 1) := by decide +kernel
theorem d8_5 : decode B6' 5 = .ok (.invokespecial 106, 3) := by decide +kernel
theorem d8_8 : decode B6' 8 = .ok (.aload_n 1, 1) := by decide +kernel
theorem d8_9 : decode B6' 9 = .ok (.invokevirtual 107, 3) := by decide +kernel
theorem d8_12 : decode B6' 12 = .ok (.ldc 220, 2) := by decide +kernel
theorem d8_14 : decode B6' 14 = .ok (.invokevirtual 107, 3) := by decide +kernel
theorem d8_17 : decode B6' 17 = .ok (.aload_n 0, 1) := by decide +kernel
theorem d8_18 : decode B6' 18 = .ok (.getfield 7, 3) := by decide +kernel
theorem d8_21 : decode B6' 21 = .ok (.invokevirtual 107, 3) := by decide +kernel
theorem d8_24 : decode B6' 24 = .ok (.ldc 222, 2) := by decide +kernel
theorem d8_26 : decode B6' 26 = .ok (.invokevirtual 107, 3) := by decide +kernel
theorem d8_29 : decode B6' 29 = .ok (.aload_n 2, 1) := by decide +kernel
theorem d8_30 : decode B6' 30 = .ok (.invokevirtual 107, 3) := by decide +kernel
theorem d8_33 : decode B6' 33 = .ok (.invokevirtual 117, 3) := by decide +kernel
theorem d8_36 : decode B6' 36 = .ok (.aconst_null, 1) := by decide +kernel
theorem d8_37 : decode B6' 37 = .ok (.invokevirtual 120, 3) := by decide +kernel
theorem d8_40 : decode B6' 40 = .ok (.areturn, 1) := by decide +kernel
theorem d9_0 : decode B7' 0 = .ok (.aload_n 0, 1) := by decide +kernel
theorem d9_1 : decode B7' 1 = .ok (.bipush 16, 2) := by decide +kernel
theorem d9_3 : decode B7' 3 = .ok (.invokespecial 1, 3) := by decide +kernel
theorem d9_6 : decode B7' 6 = .ok (.return_, 1) := by decide +kernel
theorem d10_0 : decode B8' 0 = .ok (.aload_n 0, 1) := by decide +kernel
theorem d10_1 : decode B8' 1 = .ok (.invokespecial 3, 3) := by decide +kernel
theorem d10_4 : decode B8' 4 = .ok (.getstatic 18, 3) := by decide +kernel
theorem d10_7 : decode B8' 7 = .ok (.ifCond .eq 18, 3) := by decide +kernel
theorem d10_10 : decode B8' 10 = .ok (.aload_n 0, 1) := by decide +kernel
theorem d10_11 : decode B8' 11 = .ok (.iload_n 1, 1) := by decide +kernel
theorem d10_12 : decode B8' 12 = .ok (.newarray .byte, 2) := by decide +kernel
theorem d10_14 : decode B8' 14 = .ok (.putfield 15, 3) := by decide +kernel
theorem d10_17 : decode B8' 17 = .ok (.aload_n 0, 1) := by decide +kernel
theorem d10_18 : decode B8' 18 = .ok (.iconst 0, 1) := by decide +kernel
theorem d10_19 : decode B8' 19 = .ok (.putfield 22, 3) := by decide +kernel
theorem d10_22 : decode B8' 22 = .ok (.goto 16, 3) := by decide +kernel
theorem d10_38 : decode B8' 38 = .ok (.return_, 1) := by decide +kernel
theorem d11_0 : decode B9' 0 = .ok (.aload_n 0, 1) := by decide +kernel
theorem d11_1 : decode B9' 1 = .ok (.aload_n 1, 1) := by decide +kernel
theorem d11_2 : decode B9' 2 = .ok (.invokespecial 29, 3) := by decide +kernel
theorem d11_5 : decode B9' 5 = .ok (.pop, 1) := by decide +kernel
theorem d11_6 : decode B9' 6 = .ok (.aload_n 0, 1) := by decide +kernel
theorem d11_7 : decode B9' 7 = .ok (.areturn, 1) := by decide +kernel
theorem d12_0 : decode B10' 0 = .ok (.aload_n 1, 1) := by decide +kernel
theorem d12_1 : decode B10' 1 = .ok (.ifnonnull 8, 3) := by decide +kernel
theorem d12_9 : decode B10' 9 = .ok (.aload_n 1, 1) := by decide +kernel
theorem d12_10 : decode B10' 10 = .ok (.invokevirtual 32, 3) := by decide +kernel
theorem d12_13 : decode B10' 13 = .ok (.istore_n 2, 1) := by decide +kernel
theorem d12_14 : decode B10' 14 = .ok (.aload_n 0, 1) := by decide +kernel
theorem d12_15 : decode B10' 15 = .ok (.aload_n 0, 1) := by decide +kernel
theorem d12_16 : decode B10' 16 = .ok (.getfield 79, 3) := by decide +kernel
theorem d12_19 : decode B10' 19 = .ok (.iload_n 2, 1) := by decide +kernel
theorem d12_20 : decode B10' 20 = .ok (.iadd, 1) := by decide +kernel
theorem d12_21 : decode B10' 21 = .ok (.invokevirtual 100, 3) := by decide +kernel
theorem d12_24 : decode B10' 24 = .ok (.aload_n 0, 1) := by decide +kernel
theorem d12_25 : decode B10' 25 = .ok (.aload_n 0, 1) := by decide +kernel
theorem d12_26 : decode B10' 26 = .ok (.getfield 79, 3) := by decide +kernel
theorem d12_29 : decode B10' 29 = .ok (.aload_n 1, 1) := by decide +kernel
theorem d12_30 : decode B10' 30 = .ok (.invokevirtual 208, 3) := by decide +kernel
theorem d12_33 : decode B10' 33 = .ok (.aload_n 0, 1) := by decide +kernel
theorem d12_34 : decode B10' 34 = .ok (.dup, 1) := by decide +kernel
theorem d12_35 : decode B10' 35 = .ok (.getfield 79, 3) := by decide +kernel
theorem d12_38 : decode B10' 38 = .ok (.iload_n 2, 1) := by decide +kernel
theorem d12_39 : decode B10' 39 = .ok (.iadd, 1) := by decide +kernel
theorem d12_40 : decode B10' 40 = .ok (.putfield 79, 3) := by decide +kernel
theorem d12_43 : decode B10' 43 = .ok (.aload_n 0, 1) := by decide +kernel
theorem d12_44 : decode B10' 44 = .ok (.areturn, 1) := by decide +kernel
theorem d13_0 : decode B11' 0 = .ok (.aload_n 0, 1) := by decide +kernel
theorem d13_1 : decode B11' 1 = .ok (.getfield 9, 3) := by decide +kernel
theorem d13_4 : decode B11' 4 = .ok (.arraylength, 1) := by decide +kernel
theorem d13_5 : decode B11' 5 = .ok (.aload_n 0, 1) := by decide +kernel
theorem d13_6 : decode B11' 6 = .ok (.invokevirtual 335, 3) := by decide +kernel
theorem d13_9 : decode B11' 9 = .ok (.ishr, 1) := by decide +kernel
theorem d13_10 : decode B11' 10 = .ok (.ireturn, 1) := by decide +kernel
theorem d14_0 : decode B12' 0 = .ok (.getstatic 38, 3) := by decide +kernel
theorem d14_3 : decode B12' 3 = .ok (.ifCond .eq 10, 3) := by decide +kernel
theorem d14_6 : decode B12' 6 = .ok (.aload_n 0, 1) := by decide +kernel
theorem d14_7 : decode B12' 7 = .ok (.getfield 15, 3) := by decide +kernel
theorem d14_10 : decode B12' 10 = .ok (.goto 4, 3) := by decide +kernel
theorem d14_14 : decode B12' 14 = .ok (.ireturn, 1) := by decide +kernel
theorem d15_0 : decode B13' 0 = .ok (.aload_n 0, 1) := by decide +kernel
theorem d15_1 : decode B13' 1 = .ok (.getfield 15, 3) := by decide +kernel
theorem d15_4 : decode B13' 4 = .ok (.arraylength, 1) := by decide +kernel
theorem d15_5 : decode B13' 5 = .ok (.aload_n 0, 1) := by decide +kernel
theorem d15_6 : decode B13' 6 = .ok (.getfield 22, 3) := by decide +kernel
theorem d15_9 : decode B13' 9 = .ok (.ishr, 1) := by decide +kernel
theorem d15_10 : decode B13' 10 = .ok (.istore_n 2, 1) := by decide +kernel
theorem d15_11 : decode B13' 11 = .ok (.iload_n 1, 1) := by decide +kernel
theorem d15_12 : decode B13' 12 = .ok (.iload_n 2, 1) := by decide +kernel
theorem d15_13 : decode B13' 13 = .ok (.isub, 1) := by decide +kernel
theorem d15_14 : decode B13' 14 = .ok (.ifCond .le 24, 3) := by decide +kernel
theorem d15_17 : decode B13' 17 = .ok (.aload_n 0, 1) := by decide +kernel
theorem d15_18 : decode B13' 18 = .ok (.aload_n 0, 1) := by decide +kernel
theorem d15_19 : decode B13' 19 = .ok (.getfield 15, 3) := by decide +kernel
theorem d15_22 : decode B13' 22 = .ok (.aload_n 0, 1) := by decide +kernel
theorem d15_23 : decode B13' 23 = .ok (.iload_n 1, 1) := by decide +kernel
theorem d15_24 : decode B13' 24 = .ok (.invokevirtual 104, 3) := by decide +kernel
theorem d15_27 : decode B13' 27 = .ok (.aload_n 0, 1) := by decide +kernel
theorem d15_28 : decode B13' 28 = .ok (.getfield 22, 3) := by decide +kernel
theorem d15_31 : decode B13' 31 = .ok (.ishl, 1) := by decide +kernel
theorem d15_32 : decode B13' 32 = .ok (.invokestatic 108, 3) := by decide +kernel
theorem d15_35 : decode B13' 35 = .ok (.putfield 15, 3) := by decide +kernel
theorem d15_38 : decode B13' 38 = .ok (.return_, 1) := by decide +kernel
theorem d16_0 : decode B14' 0 = .ok (.aload_n 0, 1) := by decide +kernel
theorem d16_1 : decode B14' 1 = .ok (.aload_n 2, 1) := by decide +kernel
theorem d16_2 : decode B14' 2 = .ok (.invokevirtual 397, 3) := by decide +kernel
theorem d16_5 : decode B14' 5 = .ok (.aload_n 2, 1) := by decide +kernel
theorem d16_6 : decode B14' 6 = .ok (.aload_n 0, 1) := by decide +kernel
theorem d16_7 : decode B14' 7 = .ok (.getfield 15, 3) := by decide +kernel
theorem d16_10 : decode B14' 10 = .ok (.iload_n 1, 1) := by decide +kernel
theorem d16_11 : decode B14' 11 = .ok (.aload_n 0, 1) := by decide +kernel
theorem d16_12 : decode B14' 12 = .ok (.getfield 22, 3) := by decide +kernel
theorem d16_15 : decode B14' 15 = .ok (.invokevirtual 399, 3) := by decide +kernel
theorem d16_18 : decode B14' 18 = .ok (.return_, 1) := by decide +kernel
theorem d17_0 : decode B15' 0 = .ok (.getstatic 18, 3) := by decide +kernel
theorem d17_3 : decode B15' 3 = .ok (.ifCond .eq 18, 3) := by decide +kernel
theorem d17_6 : decode B15' 6 = .ok (.aload_n 0, 1) := by decide +kernel
theorem d17_7 : decode B15' 7 = .ok (.getfield 22, 3) := by decide +kernel
theorem d17_10 : decode B15' 10 = .ok (.aload_n 1, 1) := by decide +kernel
theorem d17_11 : decode B15' 11 = .ok (.invokevirtual 40, 3) := by decide +kernel
theorem d17_14 : decode B15' 14 = .ok (.if_icmp .eq 7, 3) := by decide +kernel
theorem d17_17 : decode B15' 17 = .ok (.aload_n 0, 1) := by decide +kernel
theorem d17_18 : decode B15' 18 = .ok (.invokevirtual 195, 3) := by decide +kernel
theorem d17_21 : decode B15' 21 = .ok (.return_, 1) := by decide +kernel
theorem d18_0 : decode B16' 0 = .ok (.aload_n 0, 1) := by decide +kernel
theorem d18_1 : decode B16' 1 = .ok (.invokevirtual 335, 3) := by decide +kernel
theorem d18_4 : decode B16' 4 = .ok (.iload_n 3, 1) := by decide +kernel
theorem d18_5 : decode B16' 5 = .ok (.if_icmp .ne 23, 3) := by decide +kernel
theorem d18_8 : decode B16' 8 = .ok (.aload_n 0, 1) := by decide +kernel
theorem d18_9 : decode B16' 9 = .ok (.getfield 9, 3) := by decide +kernel
theorem d18_12 : decode B16' 12 = .ok (.iconst 0, 1) := by decide +kernel
theorem d18_13 : decode B16' 13 = .ok (.aload_n 1, 1) := by decide +kernel
theorem d18_14 : decode B16' 14 = .ok (.iload_n 2, 1) := by decide +kernel
theorem d18_15 : decode B16' 15 = .ok (.iload_n 3, 1) := by decide +kernel
theorem d18_16 : decode B16' 16 = .ok (.ishl, 1) := by decide +kernel
theorem d18_17 : decode B16' 17 = .ok (.aload_n 0, 1) := by decide +kernel
theorem d18_18 : decode B16' 18 = .ok (.getfield 9, 3) := by decide +kernel
theorem d18_21 : decode B16' 21 = .ok (.arraylength, 1) := by decide +kernel
theorem d18_22 : decode B16' 22 = .ok (.invokestatic 212, 3) := by decide +kernel
theorem d18_25 : decode B16' 25 = .ok (.goto 18, 3) := by decide +kernel
theorem d18_28 : decode B16' 28 = .ok (.aload_n 0, 1) := by decide +kernel
theorem d18_29 : decode B16' 29 = .ok (.getfield 9, 3) := by decide +kernel
theorem d18_32 : decode B16' 32 = .ok (.iconst 0, 1) := by decide +kernel
theorem d18_33 : decode B16' 33 = .ok (.aload_n 1, 1) := by decide +kernel
theorem d18_34 : decode B16' 34 = .ok (.iload_n 2, 1) := by decide +kernel
theorem d18_35 : decode B16' 35 = .ok (.aload_n 0, 1) := by decide +kernel
theorem d18_36 : decode B16' 36 = .ok (.getfield 9, 3) := by decide +kernel
theorem d18_39 : decode B16' 39 = .ok (.arraylength, 1) := by decide +kernel
theorem d18_40 : decode B16' 40 = .ok (.invokestatic 106, 3) := by decide +kernel
theorem d18_43 : decode B16' 43 = .ok (.return_, 1) := by decide +kernel
theorem d19_0 : decode B17' 0 = .ok (.aload_n 0, 1) := by decide +kernel
theorem d19_1 : decode B17' 1 = .ok (.getfield 15, 3) := by decide +kernel
theorem d19_4 : decode B17' 4 = .ok (.arraylength, 1) := by decide +kernel
theorem d19_5 : decode B17' 5 = .ok (.istore_n 2, 1) := by decide +kernel
theorem d19_6 : decode B17' 6 = .ok (.iload_n 1, 1) := by decide +kernel
theorem d19_7 : decode B17' 7 = .ok (.aload_n 0, 1) := by decide +kernel
theorem d19_8 : decode B17' 8 = .ok (.getfield 22, 3) := by decide +kernel
theorem d19_11 : decode B17' 11 = .ok (.ishl, 1) := by decide +kernel
theorem d19_12 : decode B17' 12 = .ok (.istore_n 3, 1) := by decide +kernel
theorem d19_13 : decode B17' 13 = .ok (.iload_n 3, 1) := by decide +kernel
theorem d19_14 : decode B17' 14 = .ok (.iload_n 2, 1) := by decide +kernel
theorem d19_15 : decode B17' 15 = .ok (.isub, 1) := by decide +kernel
theorem d19_16 : decode B17' 16 = .ok (.istore 4, 2) := by decide +kernel
theorem d19_18 : decode B17' 18 = .ok (.iload_n 2, 1) := by decide +kernel
theorem d19_19 : decode B17' 19 = .ok (.iload 4, 2) := by decide +kernel
theorem d19_21 : decode B17' 21 = .ok (.iload_n 2, 1) := by decide +kernel
theorem d19_22 : decode B17' 22 = .ok (.iconst 2, 1) := by decide +kernel
theorem d19_23 : decode B17' 23 = .ok (.aload_n 0, 1) := by decide +kernel
theorem d19_24 : decode B17' 24 = .ok (.getfield 22, 3) := by decide +kernel
theorem d19_27 : decode B17' 27 = .ok (.ishl, 1) := by decide +kernel
theorem d19_28 : decode B17' 28 = .ok (.iadd, 1) := by decide +kernel
theorem d19_29 : decode B17' 29 = .ok (.invokestatic 114, 3) := by decide +kernel
theorem d19_32 : decode B17' 32 = .ok (.istore 5, 2) := by decide +kernel
theorem d19_34 : decode B17' 34 = .ok (.iload 5, 2) := by decide +kernel
theorem d19_36 : decode B17' 36 = .ok (.ldc 39, 2) := by decide +kernel
theorem d19_38 : decode B17' 38 = .ok (.if_icmp .ne 13, 3) := by decide +kernel
theorem d19_51 : decode B17' 51 = .ok (.iload 5, 2) := by decide +kernel
theorem d19_53 : decode B17' 53 = .ok (.aload_n 0, 1) := by decide +kernel
theorem d19_54 : decode B17' 54 = .ok (.getfield 22, 3) := by decide +kernel
theorem d19_57 : decode B17' 57 = .ok (.ishr, 1) := by decide +kernel
theorem d19_58 : decode B17' 58 = .ok (.ireturn, 1) := by decide +kernel
theorem d20_0 : decode B18' 0 = .ok (.iload_n 0, 1) := by decide +kernel
theorem d20_1 : decode B18' 1 = .ok (.iload_n 1, 1) := by decide +kernel
theorem d20_2 : decode B18' 2 = .ok (.iload_n 2, 1) := by decide +kernel
theorem d20_3 : decode B18' 3 = .ok (.invokestatic 194, 3) := by decide +kernel
theorem d20_6 : decode B18' 6 = .ok (.iadd, 1) := by decide +kernel
theorem d20_7 : decode B18' 7 = .ok (.istore_n 3, 1) := by decide +kernel
theorem d20_8 : decode B18' 8 = .ok (.iconst 0, 1) := by decide +kernel
theorem d20_9 : decode B18' 9 = .ok (.iload_n 3, 1) := by decide +kernel
theorem d20_10 : decode B18' 10 = .ok (.if_icmp .ge 11, 3) := by decide +kernel
theorem d20_13 : decode B18' 13 = .ok (.iload_n 3, 1) := by decide +kernel
theorem d20_14 : decode B18' 14 = .ok (.ldc 200, 2) := by decide +kernel
theorem d20_16 : decode B18' 16 = .ok (.if_icmp .gt 5, 3) := by decide +kernel
theorem d20_19 : decode B18' 19 = .ok (.iload_n 3, 1) := by decide +kernel
theorem d20_20 : decode B18' 20 = .ok (.ireturn, 1) := by decide +kernel
theorem d21_0 : decode B19' 0 = .ok (.iload_n 0, 1) := by decide +kernel
theorem d21_1 : decode B19' 1 = .ok (.iload_n 1, 1) := by decide +kernel
theorem d21_2 : decode B19' 2 = .ok (.if_icmp .lt 7, 3) := by decide +kernel
theorem d21_5 : decode B19' 5 = .ok (.iload_n 0, 1) := by decide +kernel
theorem d21_6 : decode B19' 6 = .ok (.goto 4, 3) := by decide +kernel
theorem d21_9 : decode B19' 9 = .ok (.iload_n 1, 1) := by decide +kernel
theorem d21_10 : decode B19' 10 = .ok (.ireturn, 1) := by decide +kernel
theorem d22_0 : decode B20' 0 = .ok (.iload_n 1, 1) := by decide +kernel
theorem d22_1 : decode B20' 1 = .ok (.aload_n 0, 1) := by decide +kernel
theorem d22_2 : decode B20' 2 = .ok (.arraylength, 1) := by decide +kernel
theorem d22_3 : decode B20' 3 = .ok (.if_icmp .ne 11, 3) := by decide +kernel
theorem d22_14 : decode B20' 14 = .ok (.iload_n 1, 1) := by decide +kernel
theorem d22_15 : decode B20' 15 = .ok (.newarray .byte, 2) := by decide +kernel
theorem d22_17 : decode B20' 17 = .ok (.astore_n 2, 1) := by decide +kernel
theorem d22_18 : decode B20' 18 = .ok (.aload_n 0, 1) := by decide +kernel
theorem d22_19 : decode B20' 19 = .ok (.iconst 0, 1) := by decide +kernel
theorem d22_20 : decode B20' 20 = .ok (.aload_n 2, 1) := by decide +kernel
theorem d22_21 : decode B20' 21 = .ok (.iconst 0, 1) := by decide +kernel
theorem d22_22 : decode B20' 22 = .ok (.aload_n 0, 1) := by decide +kernel
theorem d22_23 : decode B20' 23 = .ok (.arraylength, 1) := by decide +kernel
theorem d22_24 : decode B20' 24 = .ok (.iload_n 1, 1) := by decide +kernel
theorem d22_25 : decode B20' 25 = .ok (.invokestatic 304, 3) := by decide +kernel
theorem d22_28 : decode B20' 28 = .ok (.invokestatic 150, 3) := by decide +kernel
theorem d22_31 : decode B20' 31 = .ok (.aload_n 2, 1) := by decide +kernel
theorem d22_32 : decode B20' 32 = .ok (.areturn, 1) := by decide +kernel
theorem d23_0 : decode B21' 0 = .ok (.iload_n 0, 1) := by decide +kernel
theorem d23_1 : decode B21' 1 = .ok (.iload_n 1, 1) := by decide +kernel
theorem d23_2 : decode B21' 2 = .ok (.if_icmp .gt 7, 3) := by decide +kernel
theorem d23_5 : decode B21' 5 = .ok (.iload_n 0, 1) := by decide +kernel
theorem d23_6 : decode B21' 6 = .ok (.goto 4, 3) := by decide +kernel
theorem d23_9 : decode B21' 9 = .ok (.iload_n 1, 1) := by decide +kernel
theorem d23_10 : decode B21' 10 = .ok (.ireturn, 1) := by decide +kernel
theorem d24_0 : decode B22' 0 = .ok (.new 18, 3) := by decide +kernel
theorem d24_3 : decode B22' 3 = .ok (.dup, 1) := by decide +kernel
theorem d24_4 : decode B22' 4 = .ok (.aload_n 0, 1) := by decide +kernel
theorem d24_5 : decode B22' 5 = .ok (.invokespecial 137, 3) := by decide +kernel
theorem d24_8 : decode B22' 8 = .ok (.areturn, 1) := by decide +kernel
theorem d25_0 : decode B23' 0 = .ok (.aload_n 0, 1) := by decide +kernel
theorem d25_1 : decode B23' 1 = .ok (.aload_n 1, 1) := by decide +kernel
theorem d25_2 : decode B23' 2 = .ok (.aconst_null, 1) := by decide +kernel
theorem d25_3 : decode B23' 3 = .ok (.invokespecial 489, 3) := by decide +kernel
theorem d25_6 : decode B23' 6 = .ok (.return_, 1) := by decide +kernel
theorem d26_0 : decode B24' 0 = .ok (.aload_n 0, 1) := by decide +kernel
theorem d26_1 : decode B24' 1 = .ok (.invokespecial 1, 3) := by decide +kernel
theorem d26_4 : decode B24' 4 = .ok (.aload_n 1, 1) := by decide +kernel
theorem d26_5 : decode B24' 5 = .ok (.invokevirtual 552, 3) := by decide +kernel
theorem d26_8 : decode B24' 8 = .ok (.astore_n 3, 1) := by decide +kernel
theorem d26_9 : decode B24' 9 = .ok (.aload_n 1, 1) := by decide +kernel
theorem d26_10 : decode B24' 10 = .ok (.invokevirtual 549, 3) := by decide +kernel
theorem d26_13 : decode B24' 13 = .ok (.istore 4, 2) := by decide +kernel
theorem d26_15 : decode B24' 15 = .ok (.aload_n 1, 1) := by decide +kernel
theorem d26_16 : decode B24' 16 = .ok (.invokevirtual 1047, 3) := by decide +kernel
theorem d26_19 : decode B24' 19 = .ok (.ifCond .eq 22, 3) := by decide +kernel
theorem d26_22 : decode B24' 22 = .ok (.aload_n 0, 1) := by decide +kernel
theorem d26_23 : decode B24' 23 = .ok (.iconst 0, 1) := by decide +kernel
theorem d26_24 : decode B24' 24 = .ok (.putfield 15, 3) := by decide +kernel
theorem d26_27 : decode B24' 27 = .ok (.aload_n 0, 1) := by decide +kernel
theorem d26_28 : decode B24' 28 = .ok (.aload_n 3, 1) := by decide +kernel
theorem d26_29 : decode B24' 29 = .ok (.iconst 0, 1) := by decide +kernel
theorem d26_30 : decode B24' 30 = .ok (.iload 4, 2) := by decide +kernel
theorem d26_32 : decode B24' 32 = .ok (.invokestatic 54, 3) := by decide +kernel
theorem d26_35 : decode B24' 35 = .ok (.putfield 9, 3) := by decide +kernel
theorem d26_38 : decode B24' 38 = .ok (.goto 59, 3) := by decide +kernel
theorem d26_41 : decode B24' 41 = .ok (.getstatic 38, 3) := by decide +kernel
theorem d26_44 : decode B24' 44 = .ok (.ifCond .eq 35, 3) := by decide +kernel
theorem d26_47 : decode B24' 47 = .ok (.aload_n 1, 1) := by decide +kernel
theorem d26_48 : decode B24' 48 = .ok (.getfield 1048, 3) := by decide +kernel
theorem d26_51 : decode B24' 51 = .ok (.ifCond .eq 28, 3) := by decide +kernel
theorem d26_79 : decode B24' 79 = .ok (.aload_n 0, 1) := by decide +kernel
theorem d26_80 : decode B24' 80 = .ok (.iconst 1, 1) := by decide +kernel
theorem d26_81 : decode B24' 81 = .ok (.putfield 15, 3) := by decide +kernel
theorem d26_84 : decode B24' 84 = .ok (.aload_n 0, 1) := by decide +kernel
theorem d26_85 : decode B24' 85 = .ok (.aload_n 3, 1) := by decide +kernel
theorem d26_86 : decode B24' 86 = .ok (.iconst 0, 1) := by decide +kernel
theorem d26_87 : decode B24' 87 = .ok (.iload 4, 2) := by decide +kernel
theorem d26_89 : decode B24' 89 = .ok (.iconst 1, 1) := by decide +kernel
theorem d26_90 : decode B24' 90 = .ok (.ishl, 1) := by decide +kernel
theorem d26_91 : decode B24' 91 = .ok (.invokestatic 54, 3) := by decide +kernel
theorem d26_94 : decode B24' 94 = .ok (.putfield 9, 3) := by decide +kernel
theorem d26_97 : decode B24' 97 = .ok (.return_, 1) := by decide +kernel
theorem d27_0 : decode B25' 0 = .ok (.aload_n 0, 1) := by decide +kernel
theorem d27_1 : decode B25' 1 = .ok (.getfield 15, 3) := by decide +kernel
theorem d27_4 : decode B25' 4 = .ok (.areturn, 1) := by decide +kernel
theorem d28_0 : decode B26' 0 = .ok (.aload_n 0, 1) := by decide +kernel
theorem d28_1 : decode B26' 1 = .ok (.invokespecial 343, 3) := by decide +kernel
theorem d28_4 : decode B26' 4 = .ok (.ireturn, 1) := by decide +kernel
theorem d29_0 : decode B27' 0 = .ok (.aload_n 0, 1) := by decide +kernel
theorem d29_1 : decode B27' 1 = .ok (.getfield 79, 3) := by decide +kernel
theorem d29_4 : decode B27' 4 = .ok (.ireturn, 1) := by decide +kernel
theorem d30_0 : decode B28' 0 = .ok (.getstatic 18, 3) := by decide +kernel
theorem d30_3 : decode B28' 3 = .ok (.ifCond .eq 14, 3) := by decide +kernel
theorem d30_6 : decode B28' 6 = .ok (.aload_n 0, 1) := by decide +kernel
theorem d30_7 : decode B28' 7 = .ok (.getfield 22, 3) := by decide +kernel
theorem d30_10 : decode B28' 10 = .ok (.ifCond .ne 7, 3) := by decide +kernel
theorem d30_13 : decode B28' 13 = .ok (.iconst 1, 1) := by decide +kernel
theorem d30_14 : decode B28' 14 = .ok (.goto 4, 3) := by decide +kernel
theorem d30_17 : decode B28' 17 = .ok (.iconst 0, 1) := by decide +kernel
theorem d30_18 : decode B28' 18 = .ok (.ireturn, 1) := by decide +kernel
theorem d31_0 : decode B29' 0 = .ok (.iload_n 1, 1) := by decide +kernel
theorem d31_1 : decode B29' 1 = .ok (.ifCond .ne 9, 3) := by decide +kernel
theorem d31_4 : decode B29' 4 = .ok (.iload_n 2, 1) := by decide +kernel
theorem d31_5 : decode B29' 5 = .ok (.aload_n 0, 1) := by decide +kernel
theorem d31_6 : decode B29' 6 = .ok (.arraylength, 1) := by decide +kernel
theorem d31_7 : decode B29' 7 = .ok (.if_icmp .eq 10, 3) := by decide +kernel
theorem d31_10 : decode B29' 10 = .ok (.aload_n 0, 1) := by decide +kernel
theorem d31_11 : decode B29' 11 = .ok (.iload_n 1, 1) := by decide +kernel
theorem d31_12 : decode B29' 12 = .ok (.iload_n 2, 1) := by decide +kernel
theorem d31_13 : decode B29' 13 = .ok (.invokestatic 339, 3) := by decide +kernel
theorem d31_16 : decode B29' 16 = .ok (.areturn, 1) := by decide +kernel
theorem d31_17 : decode B29' 17 = .ok (.aload_n 0, 1) := by decide +kernel
theorem d31_18 : decode B29' 18 = .ok (.invokevirtual 310, 3) := by decide +kernel
theorem d31_21 : decode B29' 21 = .ok (.checkcast 311, 3) := by decide +kernel
theorem d31_24 : decode B29' 24 = .ok (.areturn, 1) := by decide +kernel
theorem d32_0 : decode B30' 0 = .ok (.iload_n 1, 1) := by decide +kernel
theorem d32_1 : decode B30' 1 = .ok (.iload_n 2, 1) := by decide +kernel
theorem d32_2 : decode B30' 2 = .ok (.invokestatic 343, 3) := by decide +kernel
theorem d32_5 : decode B30' 5 = .ok (.iload_n 2, 1) := by decide +kernel
theorem d32_6 : decode B30' 6 = .ok (.iload_n 1, 1) := by decide +kernel
theorem d32_7 : decode B30' 7 = .ok (.isub, 1) := by decide +kernel
theorem d32_8 : decode B30' 8 = .ok (.istore_n 3, 1) := by decide +kernel
theorem d32_9 : decode B30' 9 = .ok (.iload_n 3, 1) := by decide +kernel
theorem d32_10 : decode B30' 10 = .ok (.newarray .byte, 2) := by decide +kernel
theorem d32_12 : decode B30' 12 = .ok (.astore 4, 2) := by decide +kernel
theorem d32_14 : decode B30' 14 = .ok (.aload_n 0, 1) := by decide +kernel
theorem d32_15 : decode B30' 15 = .ok (.iload_n 1, 1) := by decide +kernel
theorem d32_16 : decode B30' 16 = .ok (.aload 4, 2) := by decide +kernel
theorem d32_18 : decode B30' 18 = .ok (.iconst 0, 1) := by decide +kernel
theorem d32_19 : decode B30' 19 = .ok (.aload_n 0, 1) := by decide +kernel
theorem d32_20 : decode B30' 20 = .ok (.arraylength, 1) := by decide +kernel
theorem d32_21 : decode B30' 21 = .ok (.iload_n 1, 1) := by decide +kernel
theorem d32_22 : decode B30' 22 = .ok (.isub, 1) := by decide +kernel
theorem d32_23 : decode B30' 23 = .ok (.iload_n 3, 1) := by decide +kernel
theorem d32_24 : decode B30' 24 = .ok (.invokestatic 304, 3) := by decide +kernel
theorem d32_27 : decode B30' 27 = .ok (.invokestatic 150, 3) := by decide +kernel
theorem d32_30 : decode B30' 30 = .ok (.aload 4, 2) := by decide +kernel
theorem d32_32 : decode B30' 32 = .ok (.areturn, 1) := by decide +kernel
theorem d33_0 : decode B31' 0 = .ok (.iload_n 1, 1) := by decide +kernel
theorem d33_1 : decode B31' 1 = .ok (.iload_n 0, 1) := by decide +kernel
theorem d33_2 : decode B31' 2 = .ok (.if_icmp .ge 35, 3) := by decide +kernel
theorem d33_37 : decode B31' 37 = .ok (.return_, 1) := by decide +kernel
theorem d34_0 : decode B32' 0 = .ok (.new 76, 3) := by decide +kernel
theorem d34_3 : decode B32' 3 = .ok (.dup, 1) := by decide +kernel
theorem d34_4 : decode B32' 4 = .ok (.aload_n 0, 1) := by decide +kernel
theorem d34_5 : decode B32' 5 = .ok (.getfield 24, 3) := by decide +kernel
theorem d34_8 : decode B32' 8 = .ok (.aload_n 0, 1) := by decide +kernel
theorem d34_9 : decode B32' 9 = .ok (.getfield 27, 3) := by decide +kernel
theorem d34_12 : decode B32' 12 = .ok (.aload_n 1, 1) := by decide +kernel
theorem d34_13 : decode B32' 13 = .ok (.aload_n 2, 1) := by decide +kernel
theorem d34_14 : decode B32' 14 = .ok (.invokespecial 86, 3) := by decide +kernel
theorem d34_17 : decode B32' 17 = .ok (.areturn, 1) := by decide +kernel
theorem d35_0 : decode B33' 0 = .ok (.aload_n 0, 1) := by decide +kernel
theorem d35_1 : decode B33' 1 = .ok (.new 1, 3) := by decide +kernel
theorem d35_4 : decode B33' 4 = .ok (.dup, 1) := by decide +kernel
theorem d35_5 : decode B33' 5 = .ok (.invokespecial 3, 3) := by decide +kernel
theorem d35_8 : decode B33' 8 = .ok (.ldc 7, 2) := by decide +kernel
theorem d35_10 : decode B33' 10 = .ok (.invokevirtual 9, 3) := by decide +kernel
theorem d35_13 : decode B33' 13 = .ok (.aload_n 1, 1) := by decide +kernel
theorem d35_14 : decode B33' 14 = .ok (.invokevirtual 9, 3) := by decide +kernel
theorem d35_17 : decode B33' 17 = .ok (.iload_n 2, 1) := by decide +kernel
theorem d35_18 : decode B33' 18 = .ok (.iconst 1, 1) := by decide +kernel
theorem d35_19 : decode B33' 19 = .ok (.if_icmp .ge 8, 3) := by decide +kernel
theorem d35_22 : decode B33' 22 = .ok (.ldc 13, 2) := by decide +kernel
theorem d35_24 : decode B33' 24 = .ok (.goto 22, 3) := by decide +kernel
theorem d35_27 : decode B33' 27 = .ok (.new 1, 3) := by decide +kernel
theorem d35_30 : decode B33' 30 = .ok (.dup, 1) := by decide +kernel
theorem d35_31 : decode B33' 31 = .ok (.invokespecial 3, 3) := by decide +kernel
theorem d35_34 : decode B33' 34 = .ok (.ldc 15, 2) := by decide +kernel
theorem d35_36 : decode B33' 36 = .ok (.invokevirtual 9, 3) := by decide +kernel
theorem d35_39 : decode B33' 39 = .ok (.iload_n 2, 1) := by decide +kernel
theorem d35_40 : decode B33' 40 = .ok (.invokevirtual 17, 3) := by decide +kernel
theorem d35_43 : decode B33' 43 = .ok (.invokevirtual 20, 3) := by decide +kernel
theorem d35_46 : decode B33' 46 = .ok (.invokevirtual 9, 3) := by decide +kernel
theorem d35_49 : decode B33' 49 = .ok (.ldc 24, 2) := by decide +kernel
theorem d35_51 : decode B33' 51 = .ok (.invokevirtual 9, 3) := by decide +kernel
theorem d35_54 : decode B33' 54 = .ok (.aload_n 3, 1) := by decide +kernel
theorem d35_55 : decode B33' 55 = .ok (.invokevirtual 9, 3) := by decide +kernel
theorem d35_58 : decode B33' 58 = .ok (.invokevirtual 20, 3) := by decide +kernel
theorem d35_61 : decode B33' 61 = .ok (.aload 4, 2) := by decide +kernel
theorem d35_63 : decode B33' 63 = .ok (.invokespecial 26, 3) := by decide +kernel
theorem d35_66 : decode B33' 66 = .ok (.return_, 1) := by decide +kernel
theorem d36_0 : decode B34' 0 = .ok (.aload_n 0, 1) := by decide +kernel
theorem d36_1 : decode B34' 1 = .ok (.aload_n 1, 1) := by decide +kernel
theorem d36_2 : decode B34' 2 = .ok (.aload_n 2, 1) := by decide +kernel
theorem d36_3 : decode B34' 3 = .ok (.invokespecial 10, 3) := by decide +kernel
theorem d36_6 : decode B34' 6 = .ok (.return_, 1) := by decide +kernel
theorem d37_0 : decode B35' 0 = .ok (.aload_n 0, 1) := by decide +kernel
theorem d37_1 : decode B35' 1 = .ok (.aload_n 1, 1) := by decide +kernel
theorem d37_2 : decode B35' 2 = .ok (.aload_n 2, 1) := by decide +kernel
theorem d37_3 : decode B35' 3 = .ok (.invokespecial 10, 3) := by decide +kernel
theorem d37_6 : decode B35' 6 = .ok (.return_, 1) := by decide +kernel
theorem d38_0 : decode B36' 0 = .ok (.aload_n 0, 1) := by decide +kernel
theorem d38_1 : decode B36' 1 = .ok (.invokespecial 1, 3) := by decide +kernel
theorem d38_4 : decode B36' 4 = .ok (.aload_n 0, 1) := by decide +kernel
theorem d38_5 : decode B36' 5 = .ok (.aload_n 0, 1) := by decide +kernel
theorem d38_6 : decode B36' 6 = .ok (.putfield 7, 3) := by decide +kernel
theorem d38_9 : decode B36' 9 = .ok (.aload_n 0, 1) := by decide +kernel
theorem d38_10 : decode B36' 10 = .ok (.getstatic 13, 3) := by decide +kernel
theorem d38_13 : decode B36' 13 = .ok (.putfield 17, 3) := by decide +kernel
theorem d38_16 : decode B36' 16 = .ok (.aload_n 0, 1) := by decide +kernel
theorem d38_17 : decode B36' 17 = .ok (.getstatic 20, 3) := by decide +kernel
theorem d38_20 : decode B36' 20 = .ok (.putfield 24, 3) := by decide +kernel
theorem d38_23 : decode B36' 23 = .ok (.aload_n 0, 1) := by decide +kernel
theorem d38_24 : decode B36' 24 = .ok (.invokevirtual 27, 3) := by decide +kernel
theorem d38_27 : decode B36' 27 = .ok (.pop, 1) := by decide +kernel
theorem d38_28 : decode B36' 28 = .ok (.aload_n 0, 1) := by decide +kernel
theorem d38_29 : decode B36' 29 = .ok (.aload_n 1, 1) := by decide +kernel
theorem d38_30 : decode B36' 30 = .ok (.putfield 31, 3) := by decide +kernel
theorem d38_33 : decode B36' 33 = .ok (.aload_n 0, 1) := by decide +kernel
theorem d38_34 : decode B36' 34 = .ok (.aload_n 2, 1) := by decide +kernel
theorem d38_35 : decode B36' 35 = .ok (.putfield 7, 3) := by decide +kernel
theorem d38_38 : decode B36' 38 = .ok (.return_, 1) := by decide +kernel
theorem d42_0 : decode B37' 0 = .ok (.aload_n 0, 1) := by decide +kernel
theorem d42_1 : decode B37' 1 = .ok (.aload_n 1, 1) := by decide +kernel
theorem d42_2 : decode B37' 2 = .ok (.iconst 0, 1) := by decide +kernel
theorem d42_3 : decode B37' 3 = .ok (.aload_n 1, 1) := by decide +kernel
theorem d42_4 : decode B37' 4 = .ok (.arraylength, 1) := by decide +kernel
theorem d42_5 : decode B37' 5 = .ok (.aconst_null, 1) := by decide +kernel
theorem d42_6 : decode B37' 6 = .ok (.invokespecial 27, 3) := by decide +kernel
theorem d42_9 : decode B37' 9 = .ok (.return_, 1) := by decide +kernel
theorem d43_0 : decode B38' 0 = .ok (.aload_n 0, 1) := by decide +kernel
theorem d43_1 : decode B38' 1 = .ok (.invokespecial 1, 3) := by decide +kernel
theorem d43_4 : decode B38' 4 = .ok (.iload_n 3, 1) := by decide +kernel
theorem d43_5 : decode B38' 5 = .ok (.ifCond .ne 22, 3) := by decide +kernel
theorem d43_27 : decode B38' 27 = .ok (.getstatic 38, 3) := by decide +kernel
theorem d43_30 : decode B38' 30 = .ok (.ifCond .eq 28, 3) := by decide +kernel
theorem d43_33 : decode B38' 33 = .ok (.aload_n 1, 1) := by decide +kernel
theorem d43_34 : decode B38' 34 = .ok (.iload_n 2, 1) := by decide +kernel
theorem d43_35 : decode B38' 35 = .ok (.iload_n 3, 1) := by decide +kernel
theorem d43_36 : decode B38' 36 = .ok (.invokestatic 177, 3) := by decide +kernel
theorem d43_39 : decode B38' 39 = .ok (.astore 5, 2) := by decide +kernel
theorem d43_41 : decode B38' 41 = .ok (.aload_n 0, 1) := by decide +kernel
theorem d43_42 : decode B38' 42 = .ok (.aload 5, 2) := by decide +kernel
theorem d43_44 : decode B38' 44 = .ok (.iload_n 3, 1) := by decide +kernel
theorem d43_45 : decode B38' 45 = .ok (.invokestatic 47, 3) := by decide +kernel
theorem d43_48 : decode B38' 48 = .ok (.putfield 15, 3) := by decide +kernel
theorem d43_51 : decode B38' 51 = .ok (.aload_n 0, 1) := by decide +kernel
theorem d43_52 : decode B38' 52 = .ok (.aload 5, 2) := by decide +kernel
theorem d43_54 : decode B38' 54 = .ok (.putfield 9, 3) := by decide +kernel
theorem d43_57 : decode B38' 57 = .ok (.return_, 1) := by decide +kernel
theorem d44_0 : decode B39' 0 = .ok (.iload_n 2, 1) := by decide +kernel
theorem d44_1 : decode B39' 1 = .ok (.newarray .byte, 2) := by decide +kernel
theorem d44_3 : decode B39' 3 = .ok (.astore_n 3, 1) := by decide +kernel
theorem d44_4 : decode B39' 4 = .ok (.aload_n 0, 1) := by decide +kernel
theorem d44_5 : decode B39' 5 = .ok (.iload_n 1, 1) := by decide +kernel
theorem d44_6 : decode B39' 6 = .ok (.aload_n 3, 1) := by decide +kernel
theorem d44_7 : decode B39' 7 = .ok (.iconst 0, 1) := by decide +kernel
theorem d44_8 : decode B39' 8 = .ok (.iload_n 2, 1) := by decide +kernel
theorem d44_9 : decode B39' 9 = .ok (.invokestatic 115, 3) := by decide +kernel
theorem d44_12 : decode B39' 12 = .ok (.istore 4, 2) := by decide +kernel
theorem d44_14 : decode B39' 14 = .ok (.iload 4, 2) := by decide +kernel
theorem d44_16 : decode B39' 16 = .ok (.iload_n 2, 1) := by decide +kernel
theorem d44_17 : decode B39' 17 = .ok (.if_icmp .eq 40, 3) := by decide +kernel
theorem d44_20 : decode B39' 20 = .ok (.aload_n 0, 1) := by decide +kernel
theorem d44_21 : decode B39' 21 = .ok (.iload_n 1, 1) := by decide +kernel
theorem d44_22 : decode B39' 22 = .ok (.iload_n 2, 1) := by decide +kernel
theorem d44_23 : decode B39' 23 = .ok (.invokestatic 119, 3) := by decide +kernel
theorem d44_26 : decode B39' 26 = .ok (.astore 5, 2) := by decide +kernel
theorem d44_28 : decode B39' 28 = .ok (.aload 5, 2) := by decide +kernel
theorem d44_30 : decode B39' 30 = .ok (.iload 4, 2) := by decide +kernel
theorem d44_32 : decode B39' 32 = .ok (.invokestatic 71, 3) := by decide +kernel
theorem d44_35 : decode B39' 35 = .ok (.sipush 255, 3) := by decide +kernel
theorem d44_38 : decode B39' 38 = .ok (.if_icmp .gt 16, 3) := by decide +kernel
theorem d44_54 : decode B39' 54 = .ok (.aload 5, 2) := by decide +kernel
theorem d44_56 : decode B39' 56 = .ok (.areturn, 1) := by decide +kernel
theorem d44_57 : decode B39' 57 = .ok (.aload_n 3, 1) := by decide +kernel
theorem d44_58 : decode B39' 58 = .ok (.areturn, 1) := by decide +kernel
theorem d45_0 : decode B40' 0 = .ok (.iconst 0, 1) := by decide +kernel
theorem d45_1 : decode B40' 1 = .ok (.istore 5, 2) := by decide +kernel
theorem d45_3 : decode B40' 3 = .ok (.iload 5, 2) := by decide +kernel
theorem d45_5 : decode B40' 5 = .ok (.iload 4, 2) := by decide +kernel
theorem d45_7 : decode B40' 7 = .ok (.if_icmp .ge 37, 3) := by decide +kernel
theorem d45_10 : decode B40' 10 = .ok (.aload_n 0, 1) := by decide +kernel
theorem d45_11 : decode B40' 11 = .ok (.iload_n 1, 1) := by decide +kernel
theorem d45_12 : decode B40' 12 = .ok (.caload, 1) := by decide +kernel
theorem d45_13 : decode B40' 13 = .ok (.istore 6, 2) := by decide +kernel
theorem d45_15 : decode B40' 15 = .ok (.iload 6, 2) := by decide +kernel
theorem d45_17 : decode B40' 17 = .ok (.sipush 255, 3) := by decide +kernel
theorem d45_20 : decode B40' 20 = .ok (.if_icmp .le 6, 3) := by decide +kernel
theorem d45_23 : decode B40' 23 = .ok (.iload 5, 2) := by decide +kernel
theorem d45_25 : decode B40' 25 = .ok (.ireturn, 1) := by decide +kernel
theorem d45_26 : decode B40' 26 = .ok (.aload_n 2, 1) := by decide +kernel
theorem d45_27 : decode B40' 27 = .ok (.iload_n 3, 1) := by decide +kernel
theorem d45_28 : decode B40' 28 = .ok (.iload 6, 2) := by decide +kernel
theorem d45_30 : decode B40' 30 = .ok (.i2b, 1) := by decide +kernel
theorem d45_31 : decode B40' 31 = .ok (.bastore, 1) := by decide +kernel
theorem d45_32 : decode B40' 32 = .ok (.iinc 1 1, 3) := by decide +kernel
theorem d45_35 : decode B40' 35 = .ok (.iinc 3 1, 3) := by decide +kernel
theorem d45_38 : decode B40' 38 = .ok (.iinc 5 1, 3) := by decide +kernel
theorem d45_41 : decode B40' 41 = .ok (.goto (-38), 3) := by decide +kernel
theorem d45_44 : decode B40' 44 = .ok (.iload 4, 2) := by decide +kernel
theorem d45_46 : decode B40' 46 = .ok (.ireturn, 1) := by decide +kernel
theorem d46_0 : decode B41' 0 = .ok (.iload_n 1, 1) := by decide +kernel
theorem d46_1 : decode B41' 1 = .ok (.aload_n 0, 1) := by decide +kernel
theorem d46_2 : decode B41' 2 = .ok (.arraylength, 1) := by decide +kernel
theorem d46_3 : decode B41' 3 = .ok (.isub, 1) := by decide +kernel
theorem d46_4 : decode B41' 4 = .ok (.bipush 31, 2) := by decide +kernel
theorem d46_6 : decode B41' 6 = .ok (.iushr, 1) := by decide +kernel
theorem d46_7 : decode B41' 7 = .ok (.i2b, 1) := by decide +kernel
theorem d46_8 : decode B41' 8 = .ok (.ireturn, 1) := by decide +kernel
theorem d47_0 : decode B42' 0 = .ok (.aload_n 0, 1) := by decide +kernel
theorem d47_1 : decode B42' 1 = .ok (.getfield 31, 3) := by decide +kernel
theorem d47_4 : decode B42' 4 = .ok (.areturn, 1) := by decide +kernel
theorem d48_0 : decode B43' 0 = .ok (.aload_n 0, 1) := by decide +kernel
theorem d48_1 : decode B43' 1 = .ok (.aload_n 1, 1) := by decide +kernel
theorem d48_2 : decode B43' 2 = .ok (.if_acmp .ne 5, 3) := by decide +kernel
theorem d48_7 : decode B43' 7 = .ok (.aload_n 1, 1) := by decide +kernel
theorem d48_8 : decode B43' 8 = .ok (.instanceof 10, 3) := by decide +kernel
theorem d48_11 : decode B43' 11 = .ok (.ifCond .eq 43, 3) := by decide +kernel
theorem d48_14 : decode B43' 14 = .ok (.aload_n 1, 1) := by decide +kernel
theorem d48_15 : decode B43' 15 = .ok (.checkcast 10, 3) := by decide +kernel
theorem d48_18 : decode B43' 18 = .ok (.astore_n 2, 1) := by decide +kernel
theorem d48_19 : decode B43' 19 = .ok (.getstatic 38, 3) := by decide +kernel
theorem d48_22 : decode B43' 22 = .ok (.ifCond .eq 14, 3) := by decide +kernel
theorem d48_25 : decode B43' 25 = .ok (.aload_n 0, 1) := by decide +kernel
theorem d48_26 : decode B43' 26 = .ok (.getfield 15, 3) := by decide +kernel
theorem d48_29 : decode B43' 29 = .ok (.aload_n 2, 1) := by decide +kernel
theorem d48_30 : decode B43' 30 = .ok (.getfield 15, 3) := by decide +kernel
theorem d48_33 : decode B43' 33 = .ok (.if_icmp .ne 21, 3) := by decide +kernel
theorem d48_36 : decode B43' 36 = .ok (.aload_n 0, 1) := by decide +kernel
theorem d48_37 : decode B43' 37 = .ok (.getfield 9, 3) := by decide +kernel
theorem d48_40 : decode B43' 40 = .ok (.aload_n 2, 1) := by decide +kernel
theorem d48_41 : decode B43' 41 = .ok (.getfield 9, 3) := by decide +kernel
theorem d48_44 : decode B43' 44 = .ok (.invokestatic 541, 3) := by decide +kernel
theorem d48_47 : decode B43' 47 = .ok (.ifCond .eq 7, 3) := by decide +kernel
theorem d48_50 : decode B43' 50 = .ok (.iconst 1, 1) := by decide +kernel
theorem d48_51 : decode B43' 51 = .ok (.goto 4, 3) := by decide +kernel
theorem d48_55 : decode B43' 55 = .ok (.ireturn, 1) := by decide +kernel
theorem d49_0 : decode B44' 0 = .ok (.aload_n 0, 1) := by decide +kernel
theorem d49_1 : decode B44' 1 = .ok (.arraylength, 1) := by decide +kernel
theorem d49_2 : decode B44' 2 = .ok (.aload_n 1, 1) := by decide +kernel
theorem d49_3 : decode B44' 3 = .ok (.arraylength, 1) := by decide +kernel
theorem d49_4 : decode B44' 4 = .ok (.if_icmp .ne 30, 3) := by decide +kernel
theorem d49_7 : decode B44' 7 = .ok (.iconst 0, 1) := by decide +kernel
theorem d49_8 : decode B44' 8 = .ok (.istore_n 2, 1) := by decide +kernel
theorem d49_9 : decode B44' 9 = .ok (.iload_n 2, 1) := by decide +kernel
theorem d49_10 : decode B44' 10 = .ok (.aload_n 0, 1) := by decide +kernel
theorem d49_11 : decode B44' 11 = .ok (.arraylength, 1) := by decide +kernel
theorem d49_12 : decode B44' 12 = .ok (.if_icmp .ge 20, 3) := by decide +kernel
theorem d49_15 : decode B44' 15 = .ok (.aload_n 0, 1) := by decide +kernel
theorem d49_16 : decode B44' 16 = .ok (.iload_n 2, 1) := by decide +kernel
theorem d49_17 : decode B44' 17 = .ok (.baload, 1) := by decide +kernel
theorem d49_18 : decode B44' 18 = .ok (.aload_n 1, 1) := by decide +kernel
theorem d49_19 : decode B44' 19 = .ok (.iload_n 2, 1) := by decide +kernel
theorem d49_20 : decode B44' 20 = .ok (.baload, 1) := by decide +kernel
theorem d49_21 : decode B44' 21 = .ok (.if_icmp .eq 5, 3) := by decide +kernel
theorem d49_26 : decode B44' 26 = .ok (.iinc 2 1, 3) := by decide +kernel
theorem d49_29 : decode B44' 29 = .ok (.goto (-20), 3) := by decide +kernel
theorem d49_32 : decode B44' 32 = .ok (.iconst 1, 1) := by decide +kernel
theorem d49_33 : decode B44' 33 = .ok (.ireturn, 1) := by decide +kernel
theorem d50_0 : decode B45' 0 = .ok (.aload_n 0, 1) := by decide +kernel
theorem d50_1 : decode B45' 1 = .ok (.iload_n 1, 1) := by decide +kernel
theorem d50_2 : decode B45' 2 = .ok (.invokespecial 53, 3) := by decide +kernel
theorem d50_5 : decode B45' 5 = .ok (.pop, 1) := by decide +kernel
theorem d50_6 : decode B45' 6 = .ok (.aload_n 0, 1) := by decide +kernel
theorem d50_7 : decode B45' 7 = .ok (.areturn, 1) := by decide +kernel
theorem d51_0 : decode B46' 0 = .ok (.aload_n 0, 1) := by decide +kernel
theorem d51_1 : decode B46' 1 = .ok (.getfield 79, 3) := by decide +kernel
theorem d51_4 : decode B46' 4 = .ok (.istore_n 2, 1) := by decide +kernel
theorem d51_5 : decode B46' 5 = .ok (.iload_n 2, 1) := by decide +kernel
theorem d51_6 : decode B46' 6 = .ok (.iload_n 1, 1) := by decide +kernel
theorem d51_7 : decode B46' 7 = .ok (.invokestatic 245, 3) := by decide +kernel
theorem d51_10 : decode B46' 10 = .ok (.iadd, 1) := by decide +kernel
theorem d51_11 : decode B46' 11 = .ok (.istore_n 3, 1) := by decide +kernel
theorem d51_12 : decode B46' 12 = .ok (.aload_n 0, 1) := by decide +kernel
theorem d51_13 : decode B46' 13 = .ok (.iload_n 3, 1) := by decide +kernel
theorem d51_14 : decode B46' 14 = .ok (.invokevirtual 100, 3) := by decide +kernel
theorem d51_17 : decode B46' 17 = .ok (.aload_n 0, 1) := by decide +kernel
theorem d51_18 : decode B46' 18 = .ok (.invokevirtual 83, 3) := by decide +kernel
theorem d51_21 : decode B46' 21 = .ok (.ifCond .eq 16, 3) := by decide +kernel
theorem d51_24 : decode B46' 24 = .ok (.iload_n 1, 1) := by decide +kernel
theorem d51_25 : decode B46' 25 = .ok (.iload_n 3, 1) := by decide +kernel
theorem d51_26 : decode B46' 26 = .ok (.aload_n 0, 1) := by decide +kernel
theorem d51_27 : decode B46' 27 = .ok (.getfield 15, 3) := by decide +kernel
theorem d51_30 : decode B46' 30 = .ok (.invokestatic 248, 3) := by decide +kernel
theorem d51_33 : decode B46' 33 = .ok (.pop, 1) := by decide +kernel
theorem d51_34 : decode B46' 34 = .ok (.goto 14, 3) := by decide +kernel
theorem d51_48 : decode B46' 48 = .ok (.aload_n 0, 1) := by decide +kernel
theorem d51_49 : decode B46' 49 = .ok (.iload_n 3, 1) := by decide +kernel
theorem d51_50 : decode B46' 50 = .ok (.putfield 79, 3) := by decide +kernel
theorem d51_53 : decode B46' 53 = .ok (.aload_n 0, 1) := by decide +kernel
theorem d51_54 : decode B46' 54 = .ok (.areturn, 1) := by decide +kernel
theorem d52_0 : decode B47' 0 = .ok (.iconst 1, 1) := by decide +kernel
theorem d52_1 : decode B47' 1 = .ok (.istore_n 1, 1) := by decide +kernel
theorem d52_2 : decode B47' 2 = .ok (.iload_n 0, 1) := by decide +kernel
theorem d52_3 : decode B47' 3 = .ok (.ifCond .lt 8, 3) := by decide +kernel
theorem d52_6 : decode B47' 6 = .ok (.iconst 0, 1) := by decide +kernel
theorem d52_7 : decode B47' 7 = .ok (.istore_n 1, 1) := by decide +kernel
theorem d52_8 : decode B47' 8 = .ok (.iload_n 0, 1) := by decide +kernel
theorem d52_9 : decode B47' 9 = .ok (.ineg, 1) := by decide +kernel
theorem d52_10 : decode B47' 10 = .ok (.istore_n 0, 1) := by decide +kernel
theorem d52_11 : decode B47' 11 = .ok (.bipush (-10), 2) := by decide +kernel
theorem d52_13 : decode B47' 13 = .ok (.istore_n 2, 1) := by decide +kernel
theorem d52_14 : decode B47' 14 = .ok (.iconst 1, 1) := by decide +kernel
theorem d52_15 : decode B47' 15 = .ok (.istore_n 3, 1) := by decide +kernel
theorem d52_16 : decode B47' 16 = .ok (.iload_n 3, 1) := by decide +kernel
theorem d52_17 : decode B47' 17 = .ok (.bipush 10, 2) := by decide +kernel
theorem d52_19 : decode B47' 19 = .ok (.if_icmp .ge 23, 3) := by decide +kernel
theorem d52_22 : decode B47' 22 = .ok (.iload_n 0, 1) := by decide +kernel
theorem d52_23 : decode B47' 23 = .ok (.iload_n 2, 1) := by decide +kernel
theorem d52_24 : decode B47' 24 = .ok (.if_icmp .le 7, 3) := by decide +kernel
theorem d52_27 : decode B47' 27 = .ok (.iload_n 3, 1) := by decide +kernel
theorem d52_28 : decode B47' 28 = .ok (.iload_n 1, 1) := by decide +kernel
theorem d52_29 : decode B47' 29 = .ok (.iadd, 1) := by decide +kernel
theorem d52_30 : decode B47' 30 = .ok (.ireturn, 1) := by decide +kernel
theorem d53_0 : decode B48' 0 = .ok (.iload_n 1, 1) := by decide +kernel
theorem d53_1 : decode B48' 1 = .ok (.istore 5, 2) := by decide +kernel
theorem d53_3 : decode B48' 3 = .ok (.iload_n 0, 1) := by decide +kernel
theorem d53_4 : decode B48' 4 = .ok (.ifCond .ge 7, 3) := by decide +kernel
theorem d53_11 : decode B48' 11 = .ok (.iconst 0, 1) := by decide +kernel
theorem d53_12 : decode B48' 12 = .ok (.istore 6, 2) := by decide +kernel
theorem d53_14 : decode B48' 14 = .ok (.iload 6, 2) := by decide +kernel
theorem d53_16 : decode B48' 16 = .ok (.ifCond .ne 6, 3) := by decide +kernel
theorem d53_19 : decode B48' 19 = .ok (.iload_n 0, 1) := by decide +kernel
theorem d53_20 : decode B48' 20 = .ok (.ineg, 1) := by decide +kernel
theorem d53_21 : decode B48' 21 = .ok (.istore_n 0, 1) := by decide +kernel
theorem d53_22 : decode B48' 22 = .ok (.iload_n 0, 1) := by decide +kernel
theorem d53_23 : decode B48' 23 = .ok (.bipush (-100), 2) := by decide +kernel
theorem d53_25 : decode B48' 25 = .ok (.if_icmp .gt 47, 3) := by decide +kernel
theorem d53_72 : decode B48' 72 = .ok (.aload_n 2, 1) := by decide +kernel
theorem d53_73 : decode B48' 73 = .ok (.iinc 5 (-1), 3) := by decide +kernel
theorem d53_76 : decode B48' 76 = .ok (.iload 5, 2) := by decide +kernel
theorem d53_78 : decode B48' 78 = .ok (.getstatic 83, 3) := by decide +kernel
theorem d53_81 : decode B48' 81 = .ok (.iload_n 0, 1) := by decide +kernel
theorem d53_82 : decode B48' 82 = .ok (.ineg, 1) := by decide +kernel
theorem d53_83 : decode B48' 83 = .ok (.baload, 1) := by decide +kernel
theorem d53_84 : decode B48' 84 = .ok (.bastore, 1) := by decide +kernel
theorem d53_85 : decode B48' 85 = .ok (.iload_n 0, 1) := by decide +kernel
theorem d53_86 : decode B48' 86 = .ok (.bipush (-9), 2) := by decide +kernel
theorem d53_88 : decode B48' 88 = .ok (.if_icmp .ge 16, 3) := by decide +kernel
theorem d53_104 : decode B48' 104 = .ok (.iload 6, 2) := by decide +kernel
theorem d53_106 : decode B48' 106 = .ok (.ifCond .eq 12, 3) := by decide +kernel
theorem d53_118 : decode B48' 118 = .ok (.iload 5, 2) := by decide +kernel
theorem d53_120 : decode B48' 120 = .ok (.ireturn, 1) := by decide +kernel
theorem d54_0 : decode B49' 0 = .ok (.iconst 2, 1) := by decide +kernel
theorem d54_1 : decode B49' 1 = .ok (.newarray .byte, 2) := by decide +kernel
theorem d54_3 : decode B49' 3 = .ok (.astore_n 1, 1) := by decide +kernel
theorem d54_4 : decode B49' 4 = .ok (.aload_n 1, 1) := by decide +kernel
theorem d54_5 : decode B49' 5 = .ok (.iconst 0, 1) := by decide +kernel
theorem d54_6 : decode B49' 6 = .ok (.iload_n 0, 1) := by decide +kernel
theorem d54_7 : decode B49' 7 = .ok (.invokestatic 111, 3) := by decide +kernel
theorem d54_10 : decode B49' 10 = .ok (.aload_n 1, 1) := by decide +kernel
theorem d54_11 : decode B49' 11 = .ok (.areturn, 1) := by decide +kernel
theorem d55_0 : decode B50' 0 = .ok (.getstatic 44, 3) := by decide +kernel
theorem d55_3 : decode B50' 3 = .ok (.ifCond .ne 25, 3) := by decide +kernel
theorem d55_28 : decode B50' 28 = .ok (.iload_n 1, 1) := by decide +kernel
theorem d55_29 : decode B50' 29 = .ok (.iconst 1, 1) := by decide +kernel
theorem d55_30 : decode B50' 30 = .ok (.ishl, 1) := by decide +kernel
theorem d55_31 : decode B50' 31 = .ok (.istore_n 1, 1) := by decide +kernel
theorem d55_32 : decode B50' 32 = .ok (.aload_n 0, 1) := by decide +kernel
theorem d55_33 : decode B50' 33 = .ok (.iload_n 1, 1) := by decide +kernel
theorem d55_34 : decode B50' 34 = .ok (.iinc 1 1, 3) := by decide +kernel
theorem d55_37 : decode B50' 37 = .ok (.iload_n 2, 1) := by decide +kernel
theorem d55_38 : decode B50' 38 = .ok (.getstatic 59, 3) := by decide +kernel
theorem d55_41 : decode B50' 41 = .ok (.ishr, 1) := by decide +kernel
theorem d55_42 : decode B50' 42 = .ok (.i2b, 1) := by decide +kernel
theorem d55_43 : decode B50' 43 = .ok (.bastore, 1) := by decide +kernel
theorem d55_44 : decode B50' 44 = .ok (.aload_n 0, 1) := by decide +kernel
theorem d55_45 : decode B50' 45 = .ok (.iload_n 1, 1) := by decide +kernel
theorem d55_46 : decode B50' 46 = .ok (.iload_n 2, 1) := by decide +kernel
theorem d55_47 : decode B50' 47 = .ok (.getstatic 63, 3) := by decide +kernel
theorem d55_50 : decode B50' 50 = .ok (.ishr, 1) := by decide +kernel
theorem d55_51 : decode B50' 51 = .ok (.i2b, 1) := by decide +kernel
theorem d55_52 : decode B50' 52 = .ok (.bastore, 1) := by decide +kernel
theorem d55_53 : decode B50' 53 = .ok (.return_, 1) := by decide +kernel
theorem d56_0 : decode B51' 0 = .ok (.aload_n 0, 1) := by decide +kernel
theorem d56_1 : decode B51' 1 = .ok (.invokevirtual 83, 3) := by decide +kernel
theorem d56_4 : decode B51' 4 = .ok (.ifCond .ne 4, 3) := by decide +kernel
theorem d56_7 : decode B51' 7 = .ok (.return_, 1) := by decide +kernel
theorem d56_8 : decode B51' 8 = .ok (.aload_n 0, 1) := by decide +kernel
theorem d56_9 : decode B51' 9 = .ok (.getfield 15, 3) := by decide +kernel
theorem d56_12 : decode B51' 12 = .ok (.arraylength, 1) := by decide +kernel
theorem d56_13 : decode B51' 13 = .ok (.invokestatic 26, 3) := by decide +kernel
theorem d56_16 : decode B51' 16 = .ok (.astore_n 1, 1) := by decide +kernel
theorem d56_17 : decode B51' 17 = .ok (.aload_n 0, 1) := by decide +kernel
theorem d56_18 : decode B51' 18 = .ok (.getfield 15, 3) := by decide +kernel
theorem d56_21 : decode B51' 21 = .ok (.iconst 0, 1) := by decide +kernel
theorem d56_22 : decode B51' 22 = .ok (.aload_n 1, 1) := by decide +kernel
theorem d56_23 : decode B51' 23 = .ok (.iconst 0, 1) := by decide +kernel
theorem d56_24 : decode B51' 24 = .ok (.aload_n 0, 1) := by decide +kernel
theorem d56_25 : decode B51' 25 = .ok (.getfield 79, 3) := by decide +kernel
theorem d56_28 : decode B51' 28 = .ok (.invokestatic 125, 3) := by decide +kernel
theorem d56_31 : decode B51' 31 = .ok (.aload_n 0, 1) := by decide +kernel
theorem d56_32 : decode B51' 32 = .ok (.aload_n 1, 1) := by decide +kernel
theorem d56_33 : decode B51' 33 = .ok (.putfield 15, 3) := by decide +kernel
theorem d56_36 : decode B51' 36 = .ok (.aload_n 0, 1) := by decide +kernel
theorem d56_37 : decode B51' 37 = .ok (.iconst 1, 1) := by decide +kernel
theorem d56_38 : decode B51' 38 = .ok (.putfield 22, 3) := by decide +kernel
theorem d56_41 : decode B51' 41 = .ok (.return_, 1) := by decide +kernel
theorem d57_0 : decode B52' 0 = .ok (.iload_n 0, 1) := by decide +kernel
theorem d57_1 : decode B52' 1 = .ok (.invokestatic 11, 3) := by decide +kernel
theorem d57_4 : decode B52' 4 = .ok (.newarray .byte, 2) := by decide +kernel
theorem d57_6 : decode B52' 6 = .ok (.areturn, 1) := by decide +kernel
theorem d58_0 : decode B53' 0 = .ok (.iload_n 0, 1) := by decide +kernel
theorem d58_1 : decode B53' 1 = .ok (.ifCond .ge 11, 3) := by decide +kernel
theorem d58_12 : decode B53' 12 = .ok (.iload_n 0, 1) := by decide +kernel
theorem d58_13 : decode B53' 13 = .ok (.ldc 20, 2) := by decide +kernel
theorem d58_15 : decode B53' 15 = .ok (.if_icmp .lt 40, 3) := by decide +kernel
theorem d58_55 : decode B53' 55 = .ok (.iload_n 0, 1) := by decide +kernel
theorem d58_56 : decode B53' 56 = .ok (.iconst 1, 1) := by decide +kernel
theorem d58_57 : decode B53' 57 = .ok (.ishl, 1) := by decide +kernel
theorem d58_58 : decode B53' 58 = .ok (.ireturn, 1) := by decide +kernel
theorem d59_0 : decode B54' 0 = .ok (.aload_n 0, 1) := by decide +kernel
theorem d59_1 : decode B54' 1 = .ok (.iload_n 1, 1) := by decide +kernel
theorem d59_2 : decode B54' 2 = .ok (.aload_n 2, 1) := by decide +kernel
theorem d59_3 : decode B54' 3 = .ok (.iload_n 3, 1) := by decide +kernel
theorem d59_4 : decode B54' 4 = .ok (.iload 4, 2) := by decide +kernel
theorem d59_6 : decode B54' 6 = .ok (.invokestatic 240, 3) := by decide +kernel
theorem d59_9 : decode B54' 9 = .ok (.return_, 1) := by decide +kernel
theorem d60_0 : decode B55' 0 = .ok (.iload_n 3, 1) := by decide +kernel
theorem d60_1 : decode B55' 1 = .ok (.iload 4, 2) := by decide +kernel
theorem d60_3 : decode B55' 3 = .ok (.aload_n 2, 1) := by decide +kernel
theorem d60_4 : decode B55' 4 = .ok (.invokestatic 173, 3) := by decide +kernel
theorem d60_7 : decode B55' 7 = .ok (.iconst 0, 1) := by decide +kernel
theorem d60_8 : decode B55' 8 = .ok (.istore 5, 2) := by decide +kernel
theorem d60_10 : decode B55' 10 = .ok (.iload 5, 2) := by decide +kernel
theorem d60_12 : decode B55' 12 = .ok (.iload 4, 2) := by decide +kernel
theorem d60_14 : decode B55' 14 = .ok (.if_icmp .ge 27, 3) := by decide +kernel
theorem d60_17 : decode B55' 17 = .ok (.aload_n 2, 1) := by decide +kernel
theorem d60_18 : decode B55' 18 = .ok (.iload_n 3, 1) := by decide +kernel
theorem d60_19 : decode B55' 19 = .ok (.iinc 3 1, 3) := by decide +kernel
theorem d60_22 : decode B55' 22 = .ok (.aload_n 0, 1) := by decide +kernel
theorem d60_23 : decode B55' 23 = .ok (.iload_n 1, 1) := by decide +kernel
theorem d60_24 : decode B55' 24 = .ok (.iinc 1 1, 3) := by decide +kernel
theorem d60_27 : decode B55' 27 = .ok (.baload, 1) := by decide +kernel
theorem d60_28 : decode B55' 28 = .ok (.sipush 255, 3) := by decide +kernel
theorem d60_31 : decode B55' 31 = .ok (.iand, 1) := by decide +kernel
theorem d60_32 : decode B55' 32 = .ok (.invokestatic 111, 3) := by decide +kernel
theorem d60_35 : decode B55' 35 = .ok (.iinc 5 1, 3) := by decide +kernel
theorem d60_38 : decode B55' 38 = .ok (.goto (-28), 3) := by decide +kernel
theorem d60_41 : decode B55' 41 = .ok (.return_, 1) := by decide +kernel
theorem d61_0 : decode B56' 0 = .ok (.iload_n 0, 1) := by decide +kernel
theorem d61_1 : decode B56' 1 = .ok (.iload_n 1, 1) := by decide +kernel
theorem d61_2 : decode B56' 2 = .ok (.aload_n 2, 1) := by decide +kernel
theorem d61_3 : decode B56' 3 = .ok (.invokestatic 48, 3) := by decide +kernel
theorem d61_6 : decode B56' 6 = .ok (.invokestatic 419, 3) := by decide +kernel
theorem d61_9 : decode B56' 9 = .ok (.pop, 1) := by decide +kernel
theorem d61_10 : decode B56' 10 = .ok (.return_, 1) := by decide +kernel
theorem d62_0 : decode B57' 0 = .ok (.aload_n 0, 1) := by decide +kernel
theorem d62_1 : decode B57' 1 = .ok (.arraylength, 1) := by decide +kernel
theorem d62_2 : decode B57' 2 = .ok (.iconst 1, 1) := by decide +kernel
theorem d62_3 : decode B57' 3 = .ok (.ishr, 1) := by decide +kernel
theorem d62_4 : decode B57' 4 = .ok (.ireturn, 1) := by decide +kernel
theorem d63_0 : decode B58' 0 = .ok (.iload_n 0, 1) := by decide +kernel
theorem d63_1 : decode B58' 1 = .ok (.iload_n 1, 1) := by decide +kernel
theorem d63_2 : decode B58' 2 = .ok (.iload_n 2, 1) := by decide +kernel
theorem d63_3 : decode B58' 3 = .ok (.getstatic 1053, 3) := by decide +kernel
theorem d63_6 : decode B58' 6 = .ok (.invokestatic 1065, 3) := by decide +kernel
theorem d63_9 : decode B58' 9 = .ok (.ireturn, 1) := by decide +kernel
theorem d64_0 : decode B59' 0 = .ok (.iload_n 2, 1) := by decide +kernel
theorem d64_1 : decode B59' 1 = .ok (.iload_n 0, 1) := by decide +kernel
theorem d64_2 : decode B59' 2 = .ok (.ior, 1) := by decide +kernel
theorem d64_3 : decode B59' 3 = .ok (.iload_n 1, 1) := by decide +kernel
theorem d64_4 : decode B59' 4 = .ok (.ior, 1) := by decide +kernel
theorem d64_5 : decode B59' 5 = .ok (.ifCond .lt 10, 3) := by decide +kernel
theorem d64_8 : decode B59' 8 = .ok (.iload_n 1, 1) := by decide +kernel
theorem d64_9 : decode B59' 9 = .ok (.iload_n 2, 1) := by decide +kernel
theorem d64_10 : decode B59' 10 = .ok (.iload_n 0, 1) := by decide +kernel
theorem d64_11 : decode B59' 11 = .ok (.isub, 1) := by decide +kernel
theorem d64_12 : decode B59' 12 = .ok (.if_icmp .le 11, 3) := by decide +kernel
theorem d64_23 : decode B59' 23 = .ok (.iload_n 0, 1) := by decide +kernel
theorem d64_24 : decode B59' 24 = .ok (.ireturn, 1) := by decide +kernel
theorem d65_0 : decode B60' 0 = .ok (.iload_n 2, 1) := by decide +kernel
theorem d65_1 : decode B60' 1 = .ok (.invokestatic 107, 3) := by decide +kernel
theorem d65_4 : decode B60' 4 = .ok (.astore_n 3, 1) := by decide +kernel
theorem d65_5 : decode B60' 5 = .ok (.iconst 0, 1) := by decide +kernel
theorem d65_6 : decode B60' 6 = .ok (.istore 4, 2) := by decide +kernel
theorem d65_8 : decode B60' 8 = .ok (.iload 4, 2) := by decide +kernel
theorem d65_10 : decode B60' 10 = .ok (.iload_n 2, 1) := by decide +kernel
theorem d65_11 : decode B60' 11 = .ok (.if_icmp .ge 21, 3) := by decide +kernel
theorem d65_14 : decode B60' 14 = .ok (.aload_n 3, 1) := by decide +kernel
theorem d65_15 : decode B60' 15 = .ok (.iload 4, 2) := by decide +kernel
theorem d65_17 : decode B60' 17 = .ok (.aload_n 0, 1) := by decide +kernel
theorem d65_18 : decode B60' 18 = .ok (.iload_n 1, 1) := by decide +kernel
theorem d65_19 : decode B60' 19 = .ok (.caload, 1) := by decide +kernel
theorem d65_20 : decode B60' 20 = .ok (.invokestatic 111, 3) := by decide +kernel
theorem d65_23 : decode B60' 23 = .ok (.iinc 1 1, 3) := by decide +kernel
theorem d65_26 : decode B60' 26 = .ok (.iinc 4 1, 3) := by decide +kernel
theorem d65_29 : decode B60' 29 = .ok (.goto (-21), 3) := by decide +kernel
theorem d65_32 : decode B60' 32 = .ok (.aload_n 3, 1) := by decide +kernel
theorem d65_33 : decode B60' 33 = .ok (.areturn, 1) := by decide +kernel
theorem d66_0 : decode B61' 0 = .ok (.getstatic 44, 3) := by decide +kernel
theorem d66_3 : decode B61' 3 = .ok (.ifCond .ne 25, 3) := by decide +kernel
theorem d66_28 : decode B61' 28 = .ok (.iload_n 1, 1) := by decide +kernel
theorem d66_29 : decode B61' 29 = .ok (.iconst 1, 1) := by decide +kernel
theorem d66_30 : decode B61' 30 = .ok (.ishl, 1) := by decide +kernel
theorem d66_31 : decode B61' 31 = .ok (.istore_n 1, 1) := by decide +kernel
theorem d66_32 : decode B61' 32 = .ok (.aload_n 0, 1) := by decide +kernel
theorem d66_33 : decode B61' 33 = .ok (.iload_n 1, 1) := by decide +kernel
theorem d66_34 : decode B61' 34 = .ok (.iinc 1 1, 3) := by decide +kernel
theorem d66_37 : decode B61' 37 = .ok (.baload, 1) := by decide +kernel
theorem d66_38 : decode B61' 38 = .ok (.sipush 255, 3) := by decide +kernel
theorem d66_41 : decode B61' 41 = .ok (.iand, 1) := by decide +kernel
theorem d66_42 : decode B61' 42 = .ok (.getstatic 59, 3) := by decide +kernel
theorem d66_45 : decode B61' 45 = .ok (.ishl, 1) := by decide +kernel
theorem d66_46 : decode B61' 46 = .ok (.aload_n 0, 1) := by decide +kernel
theorem d66_47 : decode B61' 47 = .ok (.iload_n 1, 1) := by decide +kernel
theorem d66_48 : decode B61' 48 = .ok (.baload, 1) := by decide +kernel
theorem d66_49 : decode B61' 49 = .ok (.sipush 255, 3) := by decide +kernel
theorem d66_52 : decode B61' 52 = .ok (.iand, 1) := by decide +kernel
theorem d66_53 : decode B61' 53 = .ok (.getstatic 63, 3) := by decide +kernel
theorem d66_56 : decode B61' 56 = .ok (.ishl, 1) := by decide +kernel
theorem d66_57 : decode B61' 57 = .ok (.ior, 1) := by decide +kernel
theorem d66_58 : decode B61' 58 = .ok (.i2c, 1) := by decide +kernel
theorem d66_59 : decode B61' 59 = .ok (.ireturn, 1) := by decide +kernel
theorem pd_0 : parseMethodDescriptor "(C)Z" = some ⟨[.char], some .boolean⟩ := by decide +kernel
theorem pd_1 : parseMethodDescriptor "([BII)V" = some ⟨[(.array .byte), .int, .int], none⟩ := by decide +kernel
theorem pd_2 : parseMethodDescriptor "(C)[B" = some ⟨[.char], some (.array .byte)⟩ := by decide +kernel
theorem pd_3 : parseMethodDescriptor "([BB)V" = some ⟨[(.array .byte), .byte], none⟩ := by decide +kernel
theorem pd_4 : parseMethodDescriptor "(C)Ljava/lang/String;" = some ⟨[.char], some (.object "java/lang/String")⟩ := by decide +kernel
theorem pd_5 : parseMethodDescriptor "()V" = some ⟨[], none⟩ := by decide +kernel
theorem pd_6 : parseMethodDescriptor "(Ljava/lang/String;Ljava/util/Map;Ljava/lang/String;Ljava/util/List;Ljava/lang/String;I)V" = some ⟨[(.object "java/lang/String"), (.object "java/util/Map"), (.object "java/lang/String"), (.object "java/util/List"), (.object "java/lang/String"), .int], none⟩ := by decide +kernel
theorem pd_7 : parseMethodDescriptor "(I)V" = some ⟨[.int], none⟩ := by decide +kernel
theorem pd_8 : parseMethodDescriptor "()B" = some ⟨[], some .byte⟩ := by decide +kernel
theorem pd_9 : parseMethodDescriptor "()I" = some ⟨[], some .int⟩ := by decide +kernel
theorem pd_10 : parseMethodDescriptor "(Ljava/lang/String;)V" = some ⟨[(.object "java/lang/String")], none⟩ := by decide +kernel
theorem pd_11 : parseMethodDescriptor "([BIB)V" = some ⟨[(.array .byte), .int, .byte], none⟩ := by decide +kernel
theorem pd_12 : parseMethodDescriptor "()Z" = some ⟨[], some .boolean⟩ := by decide +kernel
theorem pd_13 : parseMethodDescriptor "(I)I" = some ⟨[.int], some .int⟩ := by decide +kernel
theorem pd_14 : parseMethodDescriptor "(I)[B" = some ⟨[.int], some (.array .byte)⟩ := by decide +kernel
theorem pd_15 : parseMethodDescriptor "([B)I" = some ⟨[(.array .byte)], some .int⟩ := by decide +kernel
theorem pd_16 : parseMethodDescriptor "(IIILjava/util/function/BiFunction;)I" = some ⟨[.int, .int, .int, (.object "java/util/function/BiFunction")], some .int⟩ := by decide +kernel
theorem pd_17 : parseMethodDescriptor "(III)I" = some ⟨[.int, .int, .int], some .int⟩ := by decide +kernel
theorem pd_18 : parseMethodDescriptor "(II[B)V" = some ⟨[.int, .int, (.array .byte)], none⟩ := by decide +kernel
theorem pd_19 : parseMethodDescriptor "([BI[BII)V" = some ⟨[(.array .byte), .int, (.array .byte), .int, .int], none⟩ := by decide +kernel
theorem pd_20 : parseMethodDescriptor "(ILjava/lang/String;)V" = some ⟨[.int, (.object "java/lang/String")], none⟩ := by decide +kernel
theorem pd_21 : parseMethodDescriptor "(Ljava/lang/String;)Ljava/lang/AbstractStringBuilder;" = some ⟨[(.object "java/lang/String")], some (.object "java/lang/AbstractStringBuilder")⟩ := by decide +kernel
theorem pd_22 : parseMethodDescriptor "(Ljava/lang/String;)Ljava/lang/StringBuilder;" = some ⟨[(.object "java/lang/String")], some (.object "java/lang/StringBuilder")⟩ := by decide +kernel
theorem pd_23 : parseMethodDescriptor "(II)I" = some ⟨[.int, .int], some .int⟩ := by decide +kernel
theorem pd_24 : parseMethodDescriptor "([BI)[B" = some ⟨[(.array .byte), .int], some (.array .byte)⟩ := by decide +kernel
theorem pd_25 : parseMethodDescriptor "()[B" = some ⟨[], some (.array .byte)⟩ := by decide +kernel
theorem pd_26 : parseMethodDescriptor "(II)V" = some ⟨[.int, .int], none⟩ := by decide +kernel
theorem pd_27 : parseMethodDescriptor "([BII)[B" = some ⟨[(.array .byte), .int, .int], some (.array .byte)⟩ := by decide +kernel
theorem pd_28 : parseMethodDescriptor "(Ljava/lang/AbstractStringBuilder;Ljava/lang/Void;)V" = some ⟨[(.object "java/lang/AbstractStringBuilder"), (.object "java/lang/Void")], none⟩ := by decide +kernel
theorem pd_29 : parseMethodDescriptor "(Ljava/lang/StringBuilder;)V" = some ⟨[(.object "java/lang/StringBuilder")], none⟩ := by decide +kernel
theorem pd_30 : parseMethodDescriptor "()Ljava/lang/String;" = some ⟨[], some (.object "java/lang/String")⟩ := by decide +kernel
theorem pd_31 : parseMethodDescriptor "(Ljava/lang/String;Ljava/lang/Throwable;)V" = some ⟨[(.object "java/lang/String"), (.object "java/lang/Throwable")], none⟩ := by decide +kernel
theorem pd_32 : parseMethodDescriptor "(II[B)I" = some ⟨[.int, .int, (.array .byte)], some .int⟩ := by decide +kernel
theorem pd_33 : parseMethodDescriptor "(I)Ljava/lang/AbstractStringBuilder;" = some ⟨[.int], some (.object "java/lang/AbstractStringBuilder")⟩ := by decide +kernel
theorem pd_34 : parseMethodDescriptor "(I)Ljava/lang/StringBuilder;" = some ⟨[.int], some (.object "java/lang/StringBuilder")⟩ := by decide +kernel
theorem pd_35 : parseMethodDescriptor "(Ljava/lang/String;ILjava/lang/String;Ljava/lang/Throwable;)V" = some ⟨[(.object "java/lang/String"), .int, (.object "java/lang/String"), (.object "java/lang/Throwable")], none⟩ := by decide +kernel
theorem pd_36 : parseMethodDescriptor "(Ljava/lang/String;Ljava/lang/Throwable;)Lcom/example/oyster/oyster/XmlDefinitionException;" = some ⟨[(.object "java/lang/String"), (.object "java/lang/Throwable")], some (.object "com/example/oyster/oyster/XmlDefinitionException")⟩ := by decide +kernel
theorem pd_37 : parseMethodDescriptor "(Ljava/lang/String;Ljava/lang/String;)Lcom/example/oyster/oyster/XmlDefinitionException;" = some ⟨[(.object "java/lang/String"), (.object "java/lang/String")], some (.object "com/example/oyster/oyster/XmlDefinitionException")⟩ := by decide +kernel
theorem pd_38 : parseMethodDescriptor "()Ljava/lang/Throwable;" = some ⟨[], some (.object "java/lang/Throwable")⟩ := by decide +kernel
theorem pd_39 : parseMethodDescriptor "([CI[BII)I" = some ⟨[(.array .char), .int, (.array .byte), .int, .int], some .int⟩ := by decide +kernel
theorem pd_40 : parseMethodDescriptor "([CII)[B" = some ⟨[(.array .char), .int, .int], some (.array .byte)⟩ := by decide +kernel
theorem pd_41 : parseMethodDescriptor "([BI)C" = some ⟨[(.array .byte), .int], some .char⟩ := by decide +kernel
theorem pd_42 : parseMethodDescriptor "([BI)B" = some ⟨[(.array .byte), .int], some .byte⟩ := by decide +kernel
theorem pd_43 : parseMethodDescriptor "([CIILjava/lang/Void;)V" = some ⟨[(.array .char), .int, .int, (.object "java/lang/Void")], none⟩ := by decide +kernel
theorem pd_44 : parseMethodDescriptor "([C)V" = some ⟨[(.array .char)], none⟩ := by decide +kernel
theorem pd_45 : parseMethodDescriptor "([B[B)Z" = some ⟨[(.array .byte), (.array .byte)], some .boolean⟩ := by decide +kernel
theorem pd_46 : parseMethodDescriptor "(Ljava/lang/Object;)Z" = some ⟨[(.object "java/lang/Object")], some .boolean⟩ := by decide +kernel
theorem pn_0 : plainName "java/lang/StringUTF16" = true := by first | (simp [plainName, overriddenIn]; done) | decide +kernel
theorem pn_1 : plainName "java/lang/StringLatin1" = true := by first | (simp [plainName, overriddenIn]; done) | decide +kernel
theorem pn_2 : plainName "java/lang/String" = true := by first | (simp [plainName, overriddenIn]; done) | decide +kernel
theorem pn_3 : plainName "java/lang/Record" = true := by first | (simp [plainName, overriddenIn]; done) | decide +kernel
theorem pn_4 : plainName "com/example/oyster/oyster/XmlElement" = true := by first | (simp [plainName, overriddenIn]; done) | decide +kernel
theorem pn_5 : plainName "java/lang/AbstractStringBuilder" = true := by first | (simp [plainName, overriddenIn]; done) | decide +kernel
theorem pn_6 : plainName "java/lang/StringBuilder" = true := by first | (simp [plainName, overriddenIn]; done) | decide +kernel
theorem pn_7 : plainName "jdk/internal/util/Preconditions" = true := by first | (simp [plainName, overriddenIn]; done) | decide +kernel
theorem pn_8 : plainName "jdk/internal/util/ArraysSupport" = true := by first | (simp [plainName, overriddenIn]; done) | decide +kernel
theorem pn_9 : plainName "java/util/Arrays" = true := by first | (simp [plainName, overriddenIn]; done) | decide +kernel
theorem pn_10 : plainName "java/lang/Throwable" = true := by first | (simp [plainName, overriddenIn]; done) | decide +kernel
theorem pn_11 : plainName "java/lang/Exception" = true := by first | (simp [plainName, overriddenIn]; done) | decide +kernel
theorem pn_12 : plainName "java/lang/RuntimeException" = true := by first | (simp [plainName, overriddenIn]; done) | decide +kernel
theorem pn_13 : plainName "java/lang/Integer" = true := by first | (simp [plainName, overriddenIn]; done) | decide +kernel
theorem pn_14 : plainName "com/example/oyster/oyster/XmlDefinitionException" = true := by first | (simp [plainName, overriddenIn]; done) | decide +kernel
theorem pn_15 : plainName "com/example/oyster/oyster/XmlElementUnreadPinLaw" = true := by first | (simp [plainName, overriddenIn]; done) | decide +kernel
theorem ef_55_1 (m : MethodId) (x0 : Addr) (x1 : Int32) (x2 : Int32) : entryFrame m #[(.ref x0), (.int x1), (.int x2)] 3 = mkF m 0 #[vR x0, vI x1, vI x2] [] := by first | (simp [entryFrame, mkF, argsToLocals, Value.category]; done) | rfl
theorem ef_2_3 (m : MethodId) (x0 : Int32) : entryFrame m #[(.int x0)] 1 = mkF m 0 #[vI x0] [] := by first | (simp [entryFrame, mkF, argsToLocals, Value.category]; done) | rfl
theorem ef_54_4 (m : MethodId) (x0 : Int32) : entryFrame m #[(.int x0)] 2 = mkF m 0 #[vI x0, vU] [] := by first | (simp [entryFrame, mkF, argsToLocals, Value.category]; done) | rfl
theorem ef_4_6 (m : MethodId) (x0 : Addr) (x1 : Addr) : entryFrame m #[(.ref x0), (.ref x1), (.int (1 : Int32))] 3 = mkF m 0 #[vR x0, vR x1, vI (1 : Int32)] [] := by first | (simp [entryFrame, mkF, argsToLocals, Value.category]; done) | rfl
theorem ef_4_8 (m : MethodId) (x0 : Addr) (x1 : Addr) : entryFrame m #[(.ref x0), (.ref x1), (.int (0 : Int32))] 3 = mkF m 0 #[vR x0, vR x1, vI (0 : Int32)] [] := by first | (simp [entryFrame, mkF, argsToLocals, Value.category]; done) | rfl
theorem ef_7_11 (m : MethodId) (x0 : Addr) : entryFrame m #[(.ref x0)] 1 = mkF m 0 #[vR x0] [] := by first | (simp [entryFrame, mkF, argsToLocals, Value.category]; done) | rfl
theorem ef_6_10 (m : MethodId) (x0 : Addr) (x1 : Addr) (x3 : Addr) (x5 : Addr) (x6 : Int32) : entryFrame m #[(.ref x0), (.ref x1), .null, (.ref x3), .null, (.ref x5), (.int x6)] 7 = mkF m 0 #[vR x0, vR x1, vN, vR x3, vN, vR x5, vI x6] [] := by first | (simp [entryFrame, mkF, argsToLocals, Value.category]; done) | rfl
theorem ef_10_14 (m : MethodId) (x0 : Addr) (x1 : Int32) : entryFrame m #[(.ref x0), (.int x1)] 2 = mkF m 0 #[vR x0, vI x1] [] := by first | (simp [entryFrame, mkF, argsToLocals, Value.category]; done) | rfl
theorem ef_15_19 (m : MethodId) (x0 : Addr) (x1 : Int32) : entryFrame m #[(.ref x0), (.int x1)] 3 = mkF m 0 #[vR x0, vI x1, vU] [] := by first | (simp [entryFrame, mkF, argsToLocals, Value.category]; done) | rfl
theorem ef_17_21 (m : MethodId) (x0 : Addr) (x1 : Addr) : entryFrame m #[(.ref x0), (.ref x1)] 2 = mkF m 0 #[vR x0, vR x1] [] := by first | (simp [entryFrame, mkF, argsToLocals, Value.category]; done) | rfl
theorem ef_18_22 (m : MethodId) (x0 : Addr) (x1 : Addr) (x2 : Int32) : entryFrame m #[(.ref x0), (.ref x1), (.int x2), (.int (0 : Int32))] 4 = mkF m 0 #[vR x0, vR x1, vI x2, vI (0 : Int32)] [] := by first | (simp [entryFrame, mkF, argsToLocals, Value.category]; done) | rfl
theorem ef_64_33 (m : MethodId) (x0 : Int32) (x1 : Int32) (x2 : Int32) (x3 : Value) (hr3 : x3.isRef = true) : entryFrame m #[(.int x0), (.int x1), (.int x2), x3] 4 = mkF m 0 #[vI x0, vI x1, vI x2, .val x3] [] := by rcases ref_cases hr3 with rfl | ⟨_, rfl⟩ <;> first | (simp [entryFrame, mkF, argsToLocals, Value.category]; done) | rfl
theorem ef_63_32 (m : MethodId) (x0 : Int32) (x1 : Int32) (x2 : Int32) : entryFrame m #[(.int x0), (.int x1), (.int x2)] 3 = mkF m 0 #[vI x0, vI x1, vI x2] [] := by first | (simp [entryFrame, mkF, argsToLocals, Value.category]; done) | rfl
theorem ef_61_30 (m : MethodId) (x0 : Int32) (x1 : Int32) (x2 : Addr) : entryFrame m #[(.int x0), (.int x1), (.ref x2)] 3 = mkF m 0 #[vI x0, vI x1, vR x2] [] := by first | (simp [entryFrame, mkF, argsToLocals, Value.category]; done) | rfl
theorem ef_60_29 (m : MethodId) (x0 : Addr) (x1 : Int32) (x2 : Addr) (x3 : Int32) (x4 : Int32) : entryFrame m #[(.ref x0), (.int x1), (.ref x2), (.int x3), (.int x4)] 6 = mkF m 0 #[vR x0, vI x1, vR x2, vI x3, vI x4, vU] [] := by first | (simp [entryFrame, mkF, argsToLocals, Value.category]; done) | rfl
theorem ef_59_28 (m : MethodId) (x0 : Addr) (x1 : Int32) (x2 : Addr) (x3 : Int32) (x4 : Int32) : entryFrame m #[(.ref x0), (.int x1), (.ref x2), (.int x3), (.int x4)] 5 = mkF m 0 #[vR x0, vI x1, vR x2, vI x3, vI x4] [] := by first | (simp [entryFrame, mkF, argsToLocals, Value.category]; done) | rfl
theorem ef_56_24 (m : MethodId) (x0 : Addr) : entryFrame m #[(.ref x0)] 2 = mkF m 0 #[vR x0, vU] [] := by first | (simp [entryFrame, mkF, argsToLocals, Value.category]; done) | rfl
theorem ef_18_34 (m : MethodId) (x0 : Addr) (x1 : Addr) (x2 : Int32) : entryFrame m #[(.ref x0), (.ref x1), (.int x2), (.int (1 : Int32))] 4 = mkF m 0 #[vR x0, vR x1, vI x2, vI (1 : Int32)] [] := by first | (simp [entryFrame, mkF, argsToLocals, Value.category]; done) | rfl
theorem ef_16_20 (m : MethodId) (x0 : Addr) (x1 : Int32) (x2 : Addr) : entryFrame m #[(.ref x0), (.int x1), (.ref x2)] 3 = mkF m 0 #[vR x0, vI x1, vR x2] [] := by first | (simp [entryFrame, mkF, argsToLocals, Value.category]; done) | rfl
theorem ef_12_16 (m : MethodId) (x0 : Addr) (x1 : Addr) : entryFrame m #[(.ref x0), (.ref x1)] 3 = mkF m 0 #[vR x0, vR x1, vU] [] := by first | (simp [entryFrame, mkF, argsToLocals, Value.category]; done) | rfl
theorem ef_21_48 (m : MethodId) (x0 : Int32) (x1 : Int32) : entryFrame m #[(.int x0), (.int x1)] 2 = mkF m 0 #[vI x0, vI x1] [] := by first | (simp [entryFrame, mkF, argsToLocals, Value.category]; done) | rfl
theorem ef_20_47 (m : MethodId) (x0 : Int32) (x1 : Int32) (x2 : Int32) : entryFrame m #[(.int x0), (.int x1), (.int x2)] 4 = mkF m 0 #[vI x0, vI x1, vI x2, vU] [] := by first | (simp [entryFrame, mkF, argsToLocals, Value.category]; done) | rfl
theorem ef_19_46 (m : MethodId) (x0 : Addr) (x1 : Int32) : entryFrame m #[(.ref x0), (.int x1)] 6 = mkF m 0 #[vR x0, vI x1, vU, vU, vU, vU] [] := by first | (simp [entryFrame, mkF, argsToLocals, Value.category]; done) | rfl
theorem ef_32_60 (m : MethodId) (x0 : Addr) (x1 : Int32) (x2 : Int32) : entryFrame m #[(.ref x0), (.int x1), (.int x2)] 5 = mkF m 0 #[vR x0, vI x1, vI x2, vU, vU] [] := by first | (simp [entryFrame, mkF, argsToLocals, Value.category]; done) | rfl
theorem ef_26_55 (m : MethodId) (x0 : Addr) (x1 : Addr) : entryFrame m #[(.ref x0), (.ref x1), .null] 5 = mkF m 0 #[vR x0, vR x1, vN, vU, vU] [] := by first | (simp [entryFrame, mkF, argsToLocals, Value.category]; done) | rfl
theorem ef_38_83 (m : MethodId) (x0 : Addr) (x1 : Addr) : entryFrame m #[(.ref x0), (.ref x1), .null] 3 = mkF m 0 #[vR x0, vR x1, vN] [] := by first | (simp [entryFrame, mkF, argsToLocals, Value.category]; done) | rfl
theorem ef_52_88 (m : MethodId) (x0 : Int32) : entryFrame m #[(.int x0)] 4 = mkF m 0 #[vI x0, vU, vU, vU] [] := by first | (simp [entryFrame, mkF, argsToLocals, Value.category]; done) | rfl
theorem ef_53_89 (m : MethodId) (x0 : Int32) (x1 : Int32) (x2 : Addr) : entryFrame m #[(.int x0), (.int x1), (.ref x2)] 7 = mkF m 0 #[vI x0, vI x1, vR x2, vU, vU, vU, vU] [] := by first | (simp [entryFrame, mkF, argsToLocals, Value.category]; done) | rfl
theorem ef_51_87 (m : MethodId) (x0 : Addr) (x1 : Int32) : entryFrame m #[(.ref x0), (.int x1)] 4 = mkF m 0 #[vR x0, vI x1, vU, vU] [] := by first | (simp [entryFrame, mkF, argsToLocals, Value.category]; done) | rfl
theorem ef_35_67 (m : MethodId) (x0 : Addr) (x1 : Addr) (x2 : Int32) (x3 : Addr) : entryFrame m #[(.ref x0), (.ref x1), (.int x2), (.ref x3), .null] 5 = mkF m 0 #[vR x0, vR x1, vI x2, vR x3, vN] [] := by first | (simp [entryFrame, mkF, argsToLocals, Value.category]; done) | rfl
theorem ef_8_12 (m : MethodId) (x0 : Addr) (x1 : Addr) (x2 : Addr) : entryFrame m #[(.ref x0), (.ref x1), (.ref x2)] 3 = mkF m 0 #[vR x0, vR x1, vR x2] [] := by first | (simp [entryFrame, mkF, argsToLocals, Value.category]; done) | rfl
theorem ef_45_94 (m : MethodId) (x0 : Addr) (x2 : Addr) (x4 : Int32) : entryFrame m #[(.ref x0), (.int (0 : Int32)), (.ref x2), (.int (0 : Int32)), (.int x4)] 7 = mkF m 0 #[vR x0, vI (0 : Int32), vR x2, vI (0 : Int32), vI x4, vU, vU] [] := by first | (simp [entryFrame, mkF, argsToLocals, Value.category]; done) | rfl
theorem ef_65_95 (m : MethodId) (x0 : Addr) (x2 : Int32) : entryFrame m #[(.ref x0), (.int (0 : Int32)), (.int x2)] 5 = mkF m 0 #[vR x0, vI (0 : Int32), vI x2, vU, vU] [] := by first | (simp [entryFrame, mkF, argsToLocals, Value.category]; done) | rfl
theorem ef_44_93 (m : MethodId) (x0 : Addr) (x2 : Int32) : entryFrame m #[(.ref x0), (.int (0 : Int32)), (.int x2)] 6 = mkF m 0 #[vR x0, vI (0 : Int32), vI x2, vU, vU, vU] [] := by first | (simp [entryFrame, mkF, argsToLocals, Value.category]; done) | rfl
theorem ef_43_92 (m : MethodId) (x0 : Addr) (x1 : Addr) (x3 : Int32) : entryFrame m #[(.ref x0), (.ref x1), (.int (0 : Int32)), (.int x3), .null] 6 = mkF m 0 #[vR x0, vR x1, vI (0 : Int32), vI x3, vN, vU] [] := by first | (simp [entryFrame, mkF, argsToLocals, Value.category]; done) | rfl
theorem ef_law (m : MethodId) (x0 : Int32) (x1 : Int32) (x2 : Int32) (x3 : Int32) (x4 : Int32) : entryFrame m #[(.int x0), (.int x1), (.int x2), (.int x3), (.int x4)] maxLocals = mkF m 0 #[vI x0, vI x1, vI x2, vI x3, vI x4, vU, vU, vU, vU, vU, vU, vU, vU, vU] [] := by first | (simp [entryFrame, mkF, argsToLocals, Value.category, maxLocals]; done) | rfl
theorem own_cpB {p : Program} {l : Launch} {e : Env} {R : Room} {s : State} {m : MethodId} {args : Array Value} {below : List Frame} {meth : Method} {c : Code} {T : State} {locs : List Loc} {cells slots : Nat} {Z : State} {h : Heap} {a b : Addr} {k k' : ClassId} {z z' : Int32} {cs ds : List Int32}
    (X : Stand p l e R s m args below meth c T locs cells slots) (hx : p.tables.exec = Jvm.exec) (hZ : Z.Warmed39 s.vm) {a0 : Array Value} {own : String} {index : Nat} (hown : s.vm.findClass own = some m.cls)
    (w1 : (Jvm.Cond.methodLink own index Jvm.Stand.acN).before a0 Z = true) (w2 : (Jvm.Cond.native Jvm.Stand.acN).before a0 Z = true) (w3 : (Jvm.Cond.static Jvm.Stand.acN).before a0 Z = true) (w4 : (Jvm.Cond.initialized "java/lang/System").before a0 Z = true) (eT : T.heap = h)
    (A : Arv Z h a k .byte z (own_by cs) (.int (0 : Int32))) (B : Arv Z h b k' .byte z' (own_by ds) (.int (0 : Int32))) {sp dp nn : Int32} (h1 : sp = (0 : Int32)) (h2 : ¬ dp < 0) (h3 : ¬ nn < 0) (h4 : nn.toNatClampNeg ≤ z.toNatClampNeg) (h5 : dp.toNatClampNeg + nn.toNatClampNeg ≤ z'.toNatClampNeg)
    (h6 : ds.length = dp.toNatClampNeg) (h7 : cs.length ≤ nn.toNatClampNeg) {n0 : Nat} (N : Fr n0 locs) (ge : n0 ≤ b)
    {g : JFrame} (hg : g.method = m) (hsize : g.locals.size = c.maxLocals) {rest : List Value} (hs : g.stack = .int nn :: .int dp :: .ref b :: .int sp :: .ref a :: rest) (hd : decode c.code g.pc = .ok (.invokestatic index, 3))
    (hf : 1 ≤ R.frames) {W : Nat} (hW : 2 * g.monitorRoom + (rest.map fun v => v.category).sum ≤ W) (hlo : W + 18 ≤ R.locals) :
    ∃ T' h' L, Stand p l e R s m args below meth c T' L cells slots ∧ T'.heap = h' ∧ Fr n0 L ∧ Keep h h' [b] ∧ Arv Z h' b k' .byte z' (own_by (ds ++ cs)) (.int (0 : Int32)) ∧
      ∀ target, Steps p.tables e below (T'.setTop { g with pc := g.pc + 3, stack := rest }) target → Steps p.tables e below (T.setTop g) target := by
  subst h1
  have e0 : (0 : Int32).toNatClampNeg = 0 := rfl
  have B2 : Arv Z h b k' .byte z' (own_by ds ++ List.replicate nn.toNatClampNeg (.int (0 : Int32))) (.int (0 : Int32)) := B.pad (pad_rep _ _ _)
  have ld : (own_by ds).length = dp.toNatClampNeg := by simp [own_by, h6]
  have lc : (own_by cs).length = cs.length := by simp [own_by]
  obtain ⟨T', h', L, X', e', N', K', V', st⟩ := cpA X hx hZ hown w1 w2 w3 w4 eT A B2 (us := (List.range nn.toNatClampNeg).map fun i => (own_by cs).getD ((0 : Int32).toNatClampNeg + i) (.int (0 : Int32))) (Or.inl ⟨rfl, rfl⟩) (by decide) h2 h3 (by rw [e0]; omega) h5 rfl (by simp [own_by]; omega) N ge hg hsize hs hd hf hW (by show W + (7 + 11) ≤ _; omega)
  refine ⟨T', h', L, X', e', N', K', ?_, st⟩
  refine V'.pad fun i => ?_
  rw [own_by_app]
  have t1 : (own_by ds ++ List.replicate nn.toNatClampNeg (Value.int 0)).take dp.toNatClampNeg = own_by ds := by rw [← ld, List.take_left']; rfl
  have t2 : (own_by ds ++ List.replicate nn.toNatClampNeg (Value.int 0)).drop (dp.toNatClampNeg + nn.toNatClampNeg) = [] := by apply List.drop_eq_nil_of_le; simp [own_by]; omega
  rw [t1, t2, List.append_nil]
  by_cases q : i < dp.toNatClampNeg
  · simp only [List.getD_eq_getElem?_getD]; rw [List.getElem?_append_left (by omega), List.getElem?_append_left (by omega)]
  · simp only [List.getD_eq_getElem?_getD]; rw [List.getElem?_append_right (by omega), List.getElem?_append_right (by omega)]
    generalize i - (own_by ds).length = j
    by_cases r : j < nn.toNatClampNeg
    · simp [r, e0]
    · rw [List.getElem?_eq_none (by simp [own_by]; omega), List.getElem?_eq_none (by simp [own_by]; omega)]
section OwnExc
variable {p : Program} {l : Launch} {e : Env} {R : Room} {s : State} {m : MethodId} {args : Array Value} {below : List Frame} {meth : Method} {c : Code} {T U Z : State} {locs : List Loc} {cells slots : Nat} {h h' : Heap} {a : Addr} {a0 : Array Value} {rc : String}
/-- Throwable's words as this sheet has them: the library's list but for 'suppressedExceptions' under Throwable itself -/
def own_xw (rc : String) : List Jvm.Cond := (Jvm.Free.Exc.excAtoms rc).eraseIdx 18
theorem own_xok : (own_xw rc).all xOk = true := rfl
/-- Throwable's links out of these words: 'suppressedExceptions' by the receiver's class -/
theorem own_links {pl : Platform} (ho : pl.frameOwnsMonitors = true) (hf : pl.finalization = false) (hp : pl.magicAccessors = ({} : Platform).magicAccessors) (h : ∀ d ∈ own_xw rc, d.before args s = true) :
    ∃ Q : ThrowableC, Q.Links pl s ∧ s.vm.findClass tN = some Q.cT ∧ s.methodNamed? tFill = some Q.fill ∧ s.methodNamed? tFill0 = some Q.fill0 ∧ s.fieldFound? tN "stackTrace" steD = some (Q.cT, Q.kT, Q.i17, Q.fStack) ∧
      s.fieldFound? tN "UNASSIGNED_STACK" steD = some (Q.cT, Q.kT, Q.i13, Q.fUnassigned) ∧ Q.fStack.type = .array (.object "java/lang/StackTraceElement") := by
  have A : ∀ {d : Jvm.Cond} (i : Nat), (own_xw rc)[i]? = some d → d.holds args s none s [] = true := fun i q => h _ (List.mem_of_getElem? q)
  obtain ⟨⟨ct, j0⟩, m0, n0, e0, t0, c0, k0, g0⟩ := Jvm.Cond.native_spec (A (d := .native tFill0) 5 rfl)
  have hc : s.vm.findClass tN = some ct := findClass_of_methodNamed n0
  obtain ⟨k, hk, hnm⟩ := Vm.findClass_spec hc
  obtain ⟨_, k1, _, _, hk1, _, _, _, _, hni⟩ := Jvm.Cond.superclass_spec hc (A (d := .superclass tN "java/lang/Object") 1 rfl)
  cases hk.symm.trans hk1
  obtain ⟨jF, mF, nF, eF, aF, sF, bF, -, -⟩ := Jvm.Cond.ownMethod (x := tFill) hc hk (A 2 rfl)
  obtain ⟨mF', cF, eF', qF, yF, lF, rF, oF, -, gF⟩ := Jvm.Cond.codeSync_spec nF (A (d := .codeSync tFill LibCode.Throwable.Fill.code 1 (some (.object tN))) 3 rfl)
  cases eF.symm.trans eF'
  obtain ⟨j1, m1, n1, e1, a1, s1, b1, nm1, ds1⟩ := Jvm.Cond.ownMethod (x := tFill0) hc hk (A 4 rfl)
  cases n0.symm.trans n1
  cases e0.symm.trans e1
  obtain ⟨mO, tO, nO, eO, sO, bO⟩ := Jvm.Cond.instanceMethod_spec (A (d := .instanceMethod oInit) 8 rfl)
  obtain ⟨tO', cO, eO', qO, yO, lO, -, oO, -, gO⟩ := Jvm.Cond.code_spec nO (A (d := .code oInit ⟨#[0xb1]⟩ 1 none) 9 rfl)
  cases eO.symm.trans eO'
  obtain ⟨kO, hkO, hnO⟩ := Vm.findClass_spec (findClass_of_methodNamed nO)
  obtain ⟨u1, u2⟩ := name_of_methodNamed nO eO
  obtain ⟨ci1, x1, cf, l1, r1, f1, p1⟩ := Jvm.Cond.linkedMethod hc hk nO (A (d := .methodLink tN 1 oInit) 10 rfl) pl hp
  obtain ⟨ci2, x2, cf2, l2, r2, f2, p2⟩ := Jvm.Cond.linkedMethod hc hk nF (A (d := .methodLink tN 27 tFill) 11 rfl) pl hp
  cases f1.symm.trans f2
  obtain ⟨ci3, x3, cf3, l3, r3, f3, p3⟩ := Jvm.Cond.linkedMethod hc hk n0 (A (d := .methodLink tN 202 tFill0) 12 rfl) pl hp
  cases f1.symm.trans f3
  obtain ⟨ci7, i7, f7, L7, R7, A7, S7, F7, N7, T7, D7⟩ := Jvm.Cond.ownField (t := .object tN) hc hk (by decide +kernel) (A (d := .fieldLink tN 7 tN "cause" "Ljava/lang/Throwable;") 13 rfl) (A (d := .lays tN tN "cause" "Ljava/lang/Throwable;") 14 rfl) pl hp
  obtain ⟨ciS, iS, fS, LS, RS, AS, SS, FS, NS, TS, DS⟩ := Jvm.Cond.ownField (t := .array (.object "java/lang/StackTraceElement")) hc hk (by decide +kernel) (A (d := .fieldLink tN 17 tN "stackTrace" steD) 15 rfl) (A (d := .lays rc tN "stackTrace" steD) 27 rfl) pl hp
  obtain ⟨ciP, iP, fP, LP, RP, AP, SP, FP, NP, TP, DP⟩ := Jvm.Cond.ownField (t := .object "java/util/List") hc hk (by decide +kernel) (A (d := .fieldLink tN 24 tN "suppressedExceptions" listD) 17 rfl) (A (d := .lays rc tN "suppressedExceptions" listD) 28 rfl) pl hp
  obtain ⟨ciU, iU, fU, aS, cS, LU, RU, AU, SU, -, -, hst, hcS, hiS, -, -, DU⟩ := Jvm.Cond.ownStatic (t := .array (.object "java/lang/StackTraceElement")) hc hk (by decide +kernel) (A (d := .fieldLink tN 13 tN "UNASSIGNED_STACK" steD) 18 rfl) (A (d := .laysStatic tN "UNASSIGNED_STACK" steD) 19 rfl) pl hp
  obtain ⟨ciV, iV, fV, _, _, LV, RV, AV, SV, -, -, -, -, -, -, -, DV⟩ := Jvm.Cond.ownStatic (t := .object "java/util/List") hc hk (by decide +kernel) (A (d := .fieldLink tN 20 tN "SUPPRESSED_SENTINEL" listD) 20 rfl) (A (d := .laysStatic tN "SUPPRESSED_SENTINEL" listD) 21 rfl) pl hp
  obtain ⟨_, _, cM, kM, iM, fM, _, _, DM, SM, FM, _⟩ := Jvm.Cond.lays_spec (A (d := .lays tN tN "detailMessage" "Ljava/lang/String;") 22 rfl)
  have apart : fS.slot ≠ fP.slot := Jvm.Cond.lays_apart (A (d := .lays rc tN "stackTrace" steD) 27 rfl) (A (d := .lays rc tN "suppressedExceptions" listD) 28 rfl) DS DP (by rw [NS, NP]; decide)
  have pF : mF.sig.parameters = [] := by
    have q : (parseMethodDescriptor tFill.desc).map (·.parameters) = some [] := by decide +kernel
    rw [gF] at q; simpa using q
  have p0 : m0.sig.parameters = [.int] := by
    have q : (parseMethodDescriptor tFill0.desc).map (·.parameters) = some [.int] := by decide +kernel
    rw [g0] at q; simpa using q
  have pO : tO.sig.parameters.length = 0 := by
    have q : (parseMethodDescriptor oInit.desc).map (·.parameters.length) = some 0 := by decide +kernel
    rw [gO] at q; simpa using q
  exact ⟨{ cT := ct, kT := k, cO := ct, aS := aS, fillIdx := jF, fill0Idx := j0, initSIdx := 0, obj := mO, kObj := kO, methFill := mF, methFill0 := m0, methInitS := mF, methObj := tO, codeFill := cF, codeInitS := cF, codeObj := cO, fBack := f7, fDepth := f7, fStack := fS, fCause := f7, fSupp := fP, fMsg := fM, fUnassigned := fU, fSentinel := fV, cfT := cf, ci1 := ci1, n1 := x1, ci27 := ci2, n27 := x2, ci202 := ci3, n202 := x3, ci7 := ci7, i7 := i7, ci13 := ciU, i13 := iU, ci17 := ciS, i17 := iS, ci20 := ciV, i20 := iV, ci24 := ciP, i24 := iP },
    ⟨ho, hf, hk, hnm, Vm.findClass_boot hc hk, hni, Jvm.Cond.initialized_spec hc hk (A 0 rfl), hst, aF, qF, yF, lF, oF, sF, bF, rF, pF, a1, nm1, ds1, p0, s1, t0, c0, k0, b1, SS, FS, SU, hkO, hnO, eO, u1, sO, bO, by rw [u2]; exact lookupSpecial_of_named nO eO sO, pO, qO, yO, oO, S7, F7, SV, SP, FP, SM, FM, apart, f1, l1, r1, p1, l2, r2, p2, l3, r3, p3, L7, R7, A7, LU, RU, AU, LS, RS, AS, LV, RV, AV, LP, RP, AP⟩,
    hc, nF, n0, DS, DU, TS⟩
/-- the call of fillInStackTrace() inside a constructor of Throwable: ahead of it nothing is made and only the receiver is written -/
theorem own_fill {W n : Nat} (X : Stand p l e R s m args below meth c T locs 0 0) (hx : p.tables.exec = Jvm.exec) (hl : l.stackTraces = true) (hZ : Z.Warmed39 s.vm) (hown : s.vm.findClass tN = some m.cls) (w : ∀ d ∈ own_xw rc, d.before a0 Z = true)
    (wi : (Jvm.Cond.instantiable rc n).before a0 Z = true) (hT0 : ThS Z s.heap) (hTK : s.vm.MethodsKnown) (hBe : s.vm.FramesKnown below) (eT : T.heap = h) (bl : ∀ y ∈ locs, y.base = a) (E : Exa Z h a rc) (N : Unt h a) (B : Fld Z h a tN "backtrace" "Ljava/lang/Object;" .null)
    {u : Value} (hu : u.isRef = true) (S : Fld Z h a tN "stackTrace" "[Ljava/lang/StackTraceElement;" u) (G : Sta Z h tN "UNASSIGNED_STACK" "[Ljava/lang/StackTraceElement;" u) {g : JFrame} (hg : g.method = m) (hsize : g.locals.size = c.maxLocals) {rest : List Value} (hs : g.stack = .ref a :: rest) (hd : decode c.code g.pc = .ok (.invokevirtual 27, 3))
    (hW : 2 * g.monitorRoom + (rest.map fun v => v.category).sum ≤ W) (hf : 3 ≤ R.frames) (hlo : W + 42 ≤ R.locals) (hc : 1 ≤ R.cells) (hsl : 2752 ≤ R.slots) :
    ∃ T' h' L, Stand p l e R s m args below meth c T' (locs ++ L) 1 2752 ∧ T'.heap = h' ∧ (∀ y ∈ L, y.base = a) ∧ Keep h h' [a] ∧ Unt h' a ∧
      (∀ {O nm d : String} {v : Value}, Jvm.RoadKit.slotOf Z O nm d ≠ Jvm.RoadKit.slotOf Z tN "backtrace" "Ljava/lang/Object;" → Jvm.RoadKit.slotOf Z O nm d ≠ Jvm.RoadKit.slotOf Z tN "depth" "I" → Jvm.RoadKit.slotOf Z O nm d ≠ Jvm.RoadKit.slotOf Z tN "stackTrace" "[Ljava/lang/StackTraceElement;" → Fld Z h a O nm d v → Fld Z h' a O nm d v) ∧
      ∀ target, Steps p.tables e below (T'.setTop { g with pc := g.pc + 3, stack := .ref a :: rest }) target → Steps p.tables e below (T.setTop g) target := by
  subst eT
  have ws : ∀ d ∈ own_xw rc, d.before args s = true := fun d q => mvX hT0 hZ (List.all_eq_true.mp own_xok d q) (w d q)
  have A : ∀ {d : Jvm.Cond} (i : Nat), (own_xw rc)[i]? = some d → d.before args s = true := fun i q => ws _ (List.mem_of_getElem? q)
  have htr : e.platform.stackTraces = true := by rw [X.admits.platform]; exact hl
  have hpl : e.platform.magicAccessors = ({} : Platform).magicAccessors := by rw [X.admits.platform]
  obtain ⟨Q, L, q1, q2, q3, q4, q5, q6⟩ := own_links (pl := e.platform) (by rw [X.admits.platform]) (by rw [X.admits.platform]) hpl ws
  obtain ⟨ce, kc, h1, h2, h3, -, h5⟩ := E
  obtain ⟨_, u1, u2, u3⟩ := N
  cases h1.symm.trans u1
  obtain ⟨_, k2, i1, i2, i3, -⟩ := Jvm.Cond.instantiable_spec wi
  cases h2.symm.trans i1
  cases h3.symm.trans i2
  obtain ⟨kX, x1, x2⟩ := hZ.alike.2.2 _ _ h3
  have hR : s.vm.findClass rc = some ce.cls := by rw [hZ.alike.findClass]; exact h2
  have ord : kX.kind = .ordinary := by rw [x2]; exact i3
  have hsz : ce.slots.size = kX.instanceTypes.size := by rw [x2]; exact h5 i3
  have tk : ∀ {f : Field} {v : Value}, kX.instanceTypes[f.slot]? = some f.type → fits f.type v = true → Jvm.Takes s ce f v := fun {f v} y1 y2 => by
    obtain ⟨y3, y4⟩ := Takes.of_laid (v := v) x1 ord y1 y2
    exact ⟨by rw [hsz]; simpa using y3, by rw [u2]; exact y4⟩
  -- the places of the fields
  obtain ⟨_, _, _, _, fs, v1, v2, -, -, -, -, v7⟩ := S
  cases h1.symm.trans v1
  obtain ⟨kq, v3, -⟩ := State.fieldFound?_setVm (s := Z) hZ.alike v2
  cases q4.symm.trans (show s.fieldFound? tN "stackTrace" steD = _ from v3)
  obtain ⟨_, _, kg, fg, st, cg, g1, -, -, g4, g5, g6, g7⟩ := G
  obtain ⟨kh, g8, g9⟩ := State.fieldFound?_setVm (s := Z) hZ.alike g1
  have g10 : kh.statics = some st := by rw [g9]; exact g4
  cases q5.symm.trans (show s.fieldFound? tN "UNASSIGNED_STACK" steD = _ from g8)
  cases L.statics.symm.trans g10
  obtain ⟨_, _, _, ib, fb, b1, b2, -, -, -, -, b7⟩ := B
  cases h1.symm.trans b1
  obtain ⟨ciB, iB, fB, LB, RB, AB, SB, -, NB, TB, DB⟩ := Jvm.Cond.ownField (t := .object "java/lang/Object") q1 L.cls (by decide +kernel) (A (d := .fieldLink tN 198 tN "backtrace" "Ljava/lang/Object;") 30 rfl) (A (d := .lays rc tN "backtrace" "Ljava/lang/Object;") 32 rfl) e.platform hpl
  obtain ⟨kr, b3, -⟩ := State.fieldFound?_setVm (s := Z) hZ.alike b2
  cases DB.symm.trans (show s.fieldFound? tN "backtrace" "Ljava/lang/Object;" = _ from b3)
  obtain ⟨_, _, cD, kD, iD, fD, -, -, DD, SD, -, -, -, -⟩ := Jvm.Cond.lays_spec (A (d := .lays rc tN "depth" "I") 36 rfl)
  cases (Jvm.Cond.lays_declared (A (d := .lays rc tN "depth" "I") 36 rfl) DD).symm.trans q1
  obtain ⟨d1, d2⟩ := State.fieldFound?_spec DD
  cases d1.symm.trans L.cls
  obtain ⟨ND, TD⟩ := State.fieldFound?_type DD (t := .int) (by decide +kernel)
  have fb' := Jvm.Cond.soleField_find q1 L.cls (A (d := .soleField tN "backtrace") 34 rfl) AB NB SB
  have fd' := Jvm.Cond.soleField_find q1 L.cls (A (d := .soleField tN "depth") 35 rfl) d2 ND SD
  obtain ⟨comp, cO, kO, -, -, hkO, hki, hO⟩ := Jvm.Cond.arrayOver_spec (A (d := .arrayOver (.object "java/lang/Object")) 33 rfl)
  have tS := (Jvm.Cond.laysAt hR x1 q4 (A (d := .lays rc tN "stackTrace" steD) 27 rfl)).1
  have tB := (Jvm.Cond.laysAt hR x1 DB (A (d := .lays rc tN "backtrace" "Ljava/lang/Object;") 32 rfl)).1
  have tD := (Jvm.Cond.laysAt hR x1 DD (A (d := .lays rc tN "depth" "I") 36 rfl)).1
  have sel0 : selectMethod e.platform s.vm ce.cls Q.fill0 = .method Q.fill0 := by
    obtain ⟨_, _, _, y1, y2, y3, y4, -⟩ := Jvm.Cond.selects_spec (A (d := .selects rc tFill0 tFill0) 24 rfl)
    cases y1.symm.trans hR
    cases y2.symm.trans (State.methodFound?_of_named q3 (by decide))
    cases y3.symm.trans q3
    rw [Launch.admits_selectMethod X.admits]; exact y4
  have neS : Q.aS ≠ a := fun z => by
    rw [z, h1] at g5; cases g5; rw [u2] at g6; cases g6
  have hse := A (d := .selects rc tFill tFill) 25 rfl
  obtain ⟨v6, vm6, ⟨T6, L6, c6, n6⟩, -, X6, ⟨hv6, C6, n', hn, D6, z1, z2, z3, z4, hL6, hc6, hn6⟩, st6⟩ := X.virtualBack hx (own := tN) (C := rc) (index := 27) (y := tFill) (z := tFill) hown (A (d := .methodLink tN 27 tFill) 11 rfl) (A (d := .declares tFill) 23 rfl) (notFace_of_selects hse) hse (A (d := .instanceMethod tFill) 2 rfl) (by decide)
    (Jvm.Free.Exc.fillPaysAny (l := l) (W := W) hx htr Q L q2 (u0 := ⟨u, hu⟩) (self := a) (cell := ce) (cellS := cg) (fun _ => by rw [u2]; simp) (by rw [u2]; simp) (by rw [u3]) (by rw [u3]) v7 sel0 neS (fun z => by rw [z] at g6; cases g6) g7 (tk tS (by rw [q6]; exact fits_refV_array _ ⟨u, hu⟩))
      ⟨{ ci198 := ciB, i198 := ib, fBack := fb }, ⟨LB, RB, AB, SB⟩, b7⟩ hTK hBe q1 hO hkO hki fb' fd' (fun x => tk tB (by rw [TB]; rfl)) (fun x => tk tD (by rw [TD]; rfl)) (by omega) hlo)
    (b := a) (cB := ce.cls) hR ⟨ce, h1, rfl, by rw [u2]; rfl⟩ hg hsize (Steps.refl _) (argsL := []) (rest := rest)
    (fun sig q => by rw [show parseMethodDescriptor tFill.desc = some ⟨[], some (.object tN)⟩ from by decide +kernel] at q; rw [← Option.some.inj q]; rfl) hs hW hd (fun _ _ => ⟨rfl, by show 0 + 1 ≤ R.cells; omega, by show 0 + 2752 ≤ R.slots; omega, h1, g5⟩)
  dsimp only [Pt.U, Pt.locs, Pt.cells, Pt.slots] at X6 D6 hL6 hc6 hn6 st6
  subst hv6 hL6 hc6 hn6
  have hL : ∀ y ∈ locs ++ [(⟨a, fb.slot⟩ : Loc), ⟨a, fD.slot⟩, ⟨a, Q.fStack.slot⟩], y.base = a := fun y hy => by
    rcases List.mem_append.mp hy with q | q
    · exact bl y q
    · simp only [List.mem_cons, List.not_mem_nil, or_false] at q; rcases q with rfl | rfl | rfl <;> rfl
  -- the heaps: s, then T, then T6
  have SE : ∀ {V : State} {M : List Loc} {x y : Nat}, Stand p l e R s m args below meth c V M x y → (∀ y ∈ M, y.base = a) → ∀ (b : Addr) (cb : Cell), s.heap[b]? = some cb → ∃ c' : Cell, V.heap[b]? = some c' ∧ c' = { cb with slots := c'.slots } ∧ c'.slots.size = cb.slots.size ∧ (b ≠ a → c' = cb) := fun {V M x y} Y hM b cb hb => by
    obtain ⟨-, -, -, -, -, q⟩ := Y.same
    obtain ⟨c', r1, r2, r3, r4⟩ := q b cb hb
    refine ⟨c', r1, r2, r3, fun ne => ?_⟩
    have : c'.slots = cb.slots := Array.ext_getElem? fun i => r4 i fun hm => ne (hM _ hm)
    rw [r2, this]
  have sz : T.heap.size ≤ s.heap.size := by obtain ⟨-, -, q, -⟩ := X.same; simpa using q
  have back : ∀ (b : Addr) (cb : Cell), T.heap[b]? = some cb → ∃ c' : Cell, T6.heap[b]? = some c' ∧ c' = { cb with slots := c'.slots } ∧ c'.slots.size = cb.slots.size ∧ (b ≠ a → c' = cb) := fun b cb hb => by
    have hlt : b < s.heap.size := Nat.lt_of_lt_of_le (Array.getElem?_eq_some_iff.mp hb).1 sz
    obtain ⟨c', r1, r2, r3, r4⟩ := SE X bl b _ (Array.getElem?_eq_getElem hlt)
    obtain ⟨c2, t1, t2, t3, t4⟩ := SE X6 hL b _ (Array.getElem?_eq_getElem hlt)
    cases hb.symm.trans r1
    exact ⟨c2, t1, by rw [t2, r2], by rw [t3, r3], fun ne => by rw [t4 ne, r4 ne]⟩
  refine ⟨T6, T6.heap, _, X6.more (Nat.le_of_eq (Nat.zero_add 1)) (by omega), rfl, fun y hy => hL y (List.mem_append_right _ hy), ⟨?_, fun b cb hb ne => ?_, fun b cb hb => ?_⟩, ?_, fun {O nm d v} ne1 ne2 ne3 F => ?_, fun target q => st6.trans q⟩
  · have : s.heap.size ≤ T6.heap.size := by obtain ⟨-, q, -⟩ := X6.same; simpa using q
    omega
  · obtain ⟨c', r1, -, -, r4⟩ := back b cb hb
    rw [r1, r4 (fun z => ne (by rw [z]; exact List.mem_singleton.mpr rfl))]
  · obtain ⟨c', r1, r2, r3, -⟩ := back b cb hb
    exact ⟨c', r1, by rw [r2], by rw [r2], r3⟩
  · obtain ⟨c', r1, r2, -⟩ := back a ce h1
    exact ⟨c', r1, by rw [r2]; exact u2, by rw [r2]; exact u3⟩
  · obtain ⟨_, cf, kf, i, f, f1, f2, f3, f4, f5, f6, f7⟩ := F
    cases h1.symm.trans f1
    simp only [Jvm.RoadKit.slotOf, f2, b2, v2, Option.map_some, Option.getD_some] at ne1 ne2 ne3
    obtain ⟨kz, dz, -⟩ := State.fieldFound?_setVm (s := s) (vm' := Z.vm) hZ.alike.symm DD
    rw [show Z.fieldFound? tN "depth" "I" = _ from dz] at ne2
    obtain ⟨c', r1, r2, -⟩ := back a ce h1
    cases D6.symm.trans r1
    exact ⟨C6, cf, kf, i, f, D6, f2, f3, by rw [z2]; exact f4, by rw [z2]; exact f5, by rw [z1]; exact f6, by rw [z4 _ ne1 ne2 ne3]; exact f7⟩
end OwnExc
theorem own_xt {a0 : Array Value} {Z : State} (hw : HW Z a0) : ∀ d ∈ own_xw "com/example/oyster/oyster/XmlDefinitionException", d.before a0 Z = true := fun d q => hw d ((by decide +kernel : ∀ d ∈ own_xw "com/example/oyster/oyster/XmlDefinitionException", d ∈ tables_1) d q)
abbrev cN0 : String := "java/lang/AbstractStringBuilder"
abbrev cN1 : String := "java/lang/String"
abbrev cN2 : String := "java/lang/StringUTF16"
abbrev cN3 : String := "java/lang/Throwable"
abbrev cN4 : String := "com/example/oyster/oyster/XmlElement"
abbrev cN5 : String := "jdk/internal/util/Preconditions"
abbrev cN6 : String := "java/lang/StringBuilder"
abbrev cN7 : String := "com/example/oyster/oyster/XmlDefinitionException"
abbrev R55_1 : Room := { frames := 0, cells := 0, slots := 0, locals := 0 }
def Q55_1 (Z : State) (rb : Addr) (kd : ClassId) (zd : Int32) (qs : List Int32) (ix cx : Int32) (nl : Nat) (h0 : Heap) (n0 : Nat) (v : Option Value) (h : Heap) (L : List Loc) : Prop := (v = none ∧ Fr n0 L ∧ Keep h0 h [rb] ∧ Arv Z h rb kd .byte zd (own_by ((qs ++ ([((cx >>> (0 &&& 31)).toInt8.toInt32)] : List Int32)) ++ ([((cx >>> (8 &&& 31)).toInt8.toInt32)] : List Int32))) (.int 0))
theorem rm55_1 l Z a0 (hw : HW Z a0) rb kd (zd : Int32) (qs : List Int32) (ix : Int32) (cx : Int32) nl h0 n0 (OLD : Old Z n0 h0) (A' : Arv Z h0 rb kd .byte zd (own_by qs) (.int 0)) (hn_qs : qs.length = nl) (Sas : Sta Z Z.heap cN2 "$assertionsDisabled" "Z" (.int 1)) (SHI : Sta Z Z.heap cN2 "HI_BYTE_SHIFT" "I" (.int 0)) (hn4 : (ix <<< ((1 : Int32) &&& 31)).toNatClampNeg = nl) (hn5 : ¬ ((ix <<< ((1 : Int32) &&& 31)) < (0 : Int32))) (hn6 : (ix <<< ((1 : Int32) &&& 31)) < zd) (ge_rb : n0 ≤ rb) (SLO : Sta Z Z.heap cN2 "LO_BYTE_SHIFT" "I" (.int 8)) (hn9 : ((ix <<< ((1 : Int32) &&& 31)) + (1 : Int32)).toNatClampNeg = (nl + 1)) (hn10 : ¬ (((ix <<< ((1 : Int32) &&& 31)) + (1 : Int32)) < (0 : Int32))) (hn11 : ((ix <<< ((1 : Int32) &&& 31)) + (1 : Int32)) < zd) :
  own_CN l Z y0 jdk_52_method_4_code 3 none [] R55_1 #[.ref rb, .int ix, .int cx] h0 (Q55_1 Z rb kd zd qs ix cx nl h0 n0) := by
 refine own_entryN (plainFor_of_name pn_0) fun p e s m below meth c s₁ hx hby hml hown hnm hret hlk hZ hh X0 e0 => ?_
 have N0 := Fr.nil n0
 rw [ef_55_1 m rb ix cx]
 obtain ⟨T1, X1, e1, st1⟩ := getS2 X0 hx hZ hown (host := "") (Or.inl (ow hw 331)) Via.refl e0 (Sas.ext OLD.2) (g := (mkF m 0 #[vR rb, vI ix, vI cx] [])) rfl (hb hby d55_0)
 refine og T1 (mkF m 38 #[vR rb, vI ((ix <<< ((1 : Int32) &&& 31)) + (1 : Int32)), vI cx] [.int cx, (.int (ix <<< ((1 : Int32) &&& 31))), .ref rb]) (fun _ k => st1 _ (XS.ifYes X1.here hx rfl (pc0 := 3) (pc' := 28) rfl (hb hby d55_3) rfl ((if0 _ _).trans (feq (by decide : ¬ ((1 : Int32) = (0 : Int32)))).2) (by decide) (by decide) (qi X1 hx hby d55_28 rfl rfl (qc X1 hx hby d55_29 rfl (XS.ishl X1.here hx rfl (hb hby d55_30) rfl (XS.istoreN X1.here hx rfl (hb hby d55_31) rfl (l' := #[vR rb, vI (ix <<< ((1 : Int32) &&& 31)), vI cx]) rfl (qa X1 hx hby d55_32 rfl rfl rfl (qi X1 hx hby d55_33 rfl rfl (XS.iinc X1.here hx rfl (hb hby d55_34) rfl (l' := #[vR rb, vI ((ix <<< ((1 : Int32) &&& 31)) + (1 : Int32)), vI cx]) rfl (qi X1 hx hby d55_37 rfl rfl k)))))))))) ?_
 obtain ⟨T2, X2, e2, st2⟩ := getS2 X1 hx hZ hown (host := "") (Or.inl (ow hw 332)) Via.refl e1 (SHI.ext OLD.2) (g := (mkF m 38 #[vR rb, vI ((ix <<< ((1 : Int32) &&& 31)) + (1 : Int32)), vI cx] [.int cx, (.int (ix <<< ((1 : Int32) &&& 31))), .ref rb])) rfl (hb hby d55_38)
 refine og T2 (mkF m 43 #[vR rb, vI ((ix <<< ((1 : Int32) &&& 31)) + (1 : Int32)), vI cx] [(.int ((cx >>> ((0 : Int32) &&& 31)).toInt8.toInt32)), (.int (ix <<< ((1 : Int32) &&& 31))), .ref rb]) (fun _ k => st2 _ (XS.ishr X2.here hx rfl (hb hby d55_41) rfl (XS.i2b X2.here hx rfl (hb hby d55_42) rfl k))) ?_
 obtain ⟨T3, h3, X3, e3, W3, V3, st3⟩ := own_bst X2 hx hZ e2 A' hn_qs (j := (ix <<< ((1 : Int32) &&& 31))) hn4 ⟨hn5, hn6⟩ (g := (mkF m 43 #[vR rb, vI ((ix <<< ((1 : Int32) &&& 31)) + (1 : Int32)), vI cx] [(.int ((cx >>> ((0 : Int32) &&& 31)).toInt8.toInt32)), (.int (ix <<< ((1 : Int32) &&& 31))), .ref rb])) rfl rfl (hb hby d55_43)
 have N3 := Fr.snoc X3 N0 ge_rb
 refine og T3 (mkF m 47 #[vR rb, vI ((ix <<< ((1 : Int32) &&& 31)) + (1 : Int32)), vI cx] [.int cx, (.int ((ix <<< ((1 : Int32) &&& 31)) + (1 : Int32))), .ref rb]) (fun _ k => st3 _ (qa X3 hx hby d55_44 rfl rfl rfl (qi X3 hx hby d55_45 rfl rfl (qi X3 hx hby d55_46 rfl rfl k)))) ?_
 have F4 := (OLD.wr W3 ge_rb)
 obtain ⟨T5, X5, e5, st5⟩ := getS2 X3 hx hZ hown (host := "") (Or.inl (ow hw 333)) Via.refl e3 (SLO.ext F4.2) (g := (mkF m 47 #[vR rb, vI ((ix <<< ((1 : Int32) &&& 31)) + (1 : Int32)), vI cx] [.int cx, (.int ((ix <<< ((1 : Int32) &&& 31)) + (1 : Int32))), .ref rb])) rfl (hb hby d55_47)
 refine og T5 (mkF m 52 #[vR rb, vI ((ix <<< ((1 : Int32) &&& 31)) + (1 : Int32)), vI cx] [(.int ((cx >>> ((8 : Int32) &&& 31)).toInt8.toInt32)), (.int ((ix <<< ((1 : Int32) &&& 31)) + (1 : Int32))), .ref rb]) (fun _ k => st5 _ (XS.ishr X5.here hx rfl (hb hby d55_50) rfl (XS.i2b X5.here hx rfl (hb hby d55_51) rfl k))) ?_
 obtain ⟨T6, h6, X6, e6, W6, V6, st6⟩ := own_bst X5 hx hZ e5 V3 (own_la hn_qs rfl) (j := ((ix <<< ((1 : Int32) &&& 31)) + (1 : Int32))) hn9 ⟨hn10, hn11⟩ (g := (mkF m 52 #[vR rb, vI ((ix <<< ((1 : Int32) &&& 31)) + (1 : Int32)), vI cx] [(.int ((cx >>> ((8 : Int32) &&& 31)).toInt8.toInt32)), (.int ((ix <<< ((1 : Int32) &&& 31)) + (1 : Int32))), .ref rb])) rfl rfl (hb hby d55_52)
 have N6 := Fr.snoc X6 N3 ge_rb
 refine og T6 (mkF m 53 #[vR rb, vI ((ix <<< ((1 : Int32) &&& 31)) + (1 : Int32)), vI cx] []) st6 ?_
 have KEEP := (((Keep.refl h0 [rb]).wr W3 (Or.inl (List.mem_of_getElem? (i := 0) rfl))).wr W6 (Or.inl (List.mem_of_getElem? (i := 0) rfl)))
 exact own_leaveN X6 hlk (v := none) (fun _ => rfl) (lb rfl) (lb rfl) (by rw [e6]; exact ⟨rfl, N6, KEEP, V6⟩) (fun fs hr => X6.returnOut hx hret (hb hby d55_53) hr)
abbrev R2_3 : Room := { frames := 0, cells := 0, slots := 0, locals := 0 }
def Q2_3 (Z : State) (ci0 : Int32) (h0 : Heap) (n0 : Nat) (v : Option Value) (h : Heap) (L : List Loc) : Prop := ((255 : Int32) < ci0 ∧ v = some (.int 0) ∧ Fr n0 L ∧ h = h0) ∨ ((¬ ((255 : Int32) < ci0)) ∧ v = some (.int 1) ∧ Fr n0 L ∧ h = h0)
theorem rm2_3 l Z a0 (hw : HW Z a0) (ci0 : Int32) h0 n0 (OLD : Old Z n0 h0) :
  own_CN l Z y1 jdk_43_method_3_code 1 (some .boolean) [] R2_3 #[.int ci0] h0 (Q2_3 Z ci0 h0 n0) := by
 refine own_entryN (plainFor_of_name pn_1) fun p e s m below meth c s₁ hx hby hml hown hnm hret hlk hZ hh X0 e0 => ?_
 have N0 := Fr.nil n0
 rw [ef_2_3 m ci0]
 refine og s₁ (mkF m 4 #[vI ci0] [.int 255, .int ci0]) (fun _ k => qi X0 hx hby d2_0 rfl rfl (XS.sipush X0.here hx rfl (hb hby d2_1) k)) ?_
 by_cases hc1 : (255 : Int32) < ci0
 ·
  refine og s₁ (mkF m 12 #[vI ci0] [.int 0]) (fun _ k => XS.icmpYes X0.here hx rfl (pc0 := 4) (pc' := 11) rfl (hb hby d2_4) rfl (tlt hc1).2.2.1 (by decide) (by decide) (qc X0 hx hby d2_11 rfl k)) ?_
  exact own_leaveN X0 hlk (v := some (.int (nar .boolean (0 : Int32)))) (own_nr hret) (lb rfl) (lb rfl) (by rw [e0]; exact (Or.inl ⟨hc1, rfl, N0, rfl⟩)) (fun fs hr => retN X0 hx (t := .boolean) hret (by simp) (hb hby d2_12) hr)
 ·
  refine og s₁ (mkF m 12 #[vI ci0] [.int 1]) (fun _ k => qn X0 hx hby d2_4 rfl rfl (flt hc1).2.2.1 (qc X0 hx hby d2_7 rfl (XS.goto X0.here hx rfl (pc0 := 8) (pc' := 12) rfl (hb hby d2_8) (by decide) (by decide) k))) ?_
  exact own_leaveN X0 hlk (v := some (.int (nar .boolean (1 : Int32)))) (own_nr hret) (lb rfl) (lb rfl) (by rw [e0]; exact (Or.inr ⟨hc1, rfl, N0, rfl⟩)) (fun fs hr => retN X0 hx (t := .boolean) hret (by simp) (hb hby d2_12) hr)
abbrev R55_5 : Room := { frames := 0, cells := 0, slots := 0, locals := 0 }
def Q55_5 (Z : State) (ra0 : Addr) (kc1 : ClassId) (cn0 cn1 ci2 : Int32) (h0 : Heap) (n0 : Nat) (v : Option Value) (h : Heap) (L : List Loc) : Prop := (v = none ∧ Fr n0 L ∧ Keep h0 h [ra0] ∧ Arv Z h ra0 kc1 .byte cn0 (own_by (([((ci2 >>> (0 &&& 31)).toInt8.toInt32)] : List Int32) ++ ([((ci2 >>> (8 &&& 31)).toInt8.toInt32)] : List Int32))) (.int 0))
theorem rm55_5 l Z a0 (hw : HW Z a0) ra0 kc1 (cn0 : Int32) (cn1 : Int32) (ci2 : Int32) h0 n0 (OLD : Old Z n0 h0) (A' : Exa Z h0 ra0 "[B") (B' : Arv Z h0 ra0 kc1 .byte cn0 (own_by ([] : List Int32)) (.int 0)) (Sas : Sta Z Z.heap cN2 "$assertionsDisabled" "Z" (.int 1)) (SHI : Sta Z Z.heap cN2 "HI_BYTE_SHIFT" "I" (.int 0)) (hn4 : (cn1 <<< ((1 : Int32) &&& 31)).toNatClampNeg = 0) (hn5 : ¬ ((cn1 <<< ((1 : Int32) &&& 31)) < (0 : Int32))) (hn6 : (cn1 <<< ((1 : Int32) &&& 31)) < cn0) (C' : n0 ≤ ra0) (SLO : Sta Z Z.heap cN2 "LO_BYTE_SHIFT" "I" (.int 8)) (hn9 : ((cn1 <<< ((1 : Int32) &&& 31)) + (1 : Int32)).toNatClampNeg = 1) (hn10 : ¬ (((cn1 <<< ((1 : Int32) &&& 31)) + (1 : Int32)) < (0 : Int32))) (hn11 : ((cn1 <<< ((1 : Int32) &&& 31)) + (1 : Int32)) < cn0) :
  own_CN l Z y0 jdk_52_method_4_code 3 none [] R55_5 #[.ref ra0, .int cn1, .int ci2] h0 (Q55_5 Z ra0 kc1 cn0 cn1 ci2 h0 n0) := by
 refine own_entryN (plainFor_of_name pn_0) fun p e s m below meth c s₁ hx hby hml hown hnm hret hlk hZ hh X0 e0 => ?_
 have N0 := Fr.nil n0
 rw [ef_55_1 m ra0 cn1 ci2]
 obtain ⟨T1, X1, e1, st1⟩ := getS2 X0 hx hZ hown (host := "") (Or.inl (ow hw 331)) Via.refl e0 (Sas.ext OLD.2) (g := (mkF m 0 #[vR ra0, vI cn1, vI ci2] [])) rfl (hb hby d55_0)
 refine og T1 (mkF m 38 #[vR ra0, vI ((cn1 <<< ((1 : Int32) &&& 31)) + (1 : Int32)), vI ci2] [.int ci2, (.int (cn1 <<< ((1 : Int32) &&& 31))), .ref ra0]) (fun _ k => st1 _ (XS.ifYes X1.here hx rfl (pc0 := 3) (pc' := 28) rfl (hb hby d55_3) rfl ((if0 _ _).trans (feq (by decide : ¬ ((1 : Int32) = (0 : Int32)))).2) (by decide) (by decide) (qi X1 hx hby d55_28 rfl rfl (qc X1 hx hby d55_29 rfl (XS.ishl X1.here hx rfl (hb hby d55_30) rfl (XS.istoreN X1.here hx rfl (hb hby d55_31) rfl (l' := #[vR ra0, vI (cn1 <<< ((1 : Int32) &&& 31)), vI ci2]) rfl (qa X1 hx hby d55_32 rfl rfl rfl (qi X1 hx hby d55_33 rfl rfl (XS.iinc X1.here hx rfl (hb hby d55_34) rfl (l' := #[vR ra0, vI ((cn1 <<< ((1 : Int32) &&& 31)) + (1 : Int32)), vI ci2]) rfl (qi X1 hx hby d55_37 rfl rfl k)))))))))) ?_
 obtain ⟨T2, X2, e2, st2⟩ := getS2 X1 hx hZ hown (host := "") (Or.inl (ow hw 332)) Via.refl e1 (SHI.ext OLD.2) (g := (mkF m 38 #[vR ra0, vI ((cn1 <<< ((1 : Int32) &&& 31)) + (1 : Int32)), vI ci2] [.int ci2, (.int (cn1 <<< ((1 : Int32) &&& 31))), .ref ra0])) rfl (hb hby d55_38)
 refine og T2 (mkF m 43 #[vR ra0, vI ((cn1 <<< ((1 : Int32) &&& 31)) + (1 : Int32)), vI ci2] [(.int ((ci2 >>> ((0 : Int32) &&& 31)).toInt8.toInt32)), (.int (cn1 <<< ((1 : Int32) &&& 31))), .ref ra0]) (fun _ k => st2 _ (XS.ishr X2.here hx rfl (hb hby d55_41) rfl (XS.i2b X2.here hx rfl (hb hby d55_42) rfl k))) ?_
 obtain ⟨T3, h3, X3, e3, W3, V3, st3⟩ := own_bst X2 hx hZ e2 B' rfl (j := (cn1 <<< ((1 : Int32) &&& 31))) hn4 ⟨hn5, hn6⟩ (g := (mkF m 43 #[vR ra0, vI ((cn1 <<< ((1 : Int32) &&& 31)) + (1 : Int32)), vI ci2] [(.int ((ci2 >>> ((0 : Int32) &&& 31)).toInt8.toInt32)), (.int (cn1 <<< ((1 : Int32) &&& 31))), .ref ra0])) rfl rfl (hb hby d55_43)
 replace V3 : Arv Z h3 ra0 kc1 .byte cn0 (own_by ([((ci2 >>> (0 &&& 31)).toInt8.toInt32)] : List Int32)) (.int 0) := V3
 have N3 := Fr.snoc X3 N0 C'
 refine og T3 (mkF m 47 #[vR ra0, vI ((cn1 <<< ((1 : Int32) &&& 31)) + (1 : Int32)), vI ci2] [.int ci2, (.int ((cn1 <<< ((1 : Int32) &&& 31)) + (1 : Int32))), .ref ra0]) (fun _ k => st3 _ (qa X3 hx hby d55_44 rfl rfl rfl (qi X3 hx hby d55_45 rfl rfl (qi X3 hx hby d55_46 rfl rfl k)))) ?_
 have F4 := (OLD.wr W3 C')
 obtain ⟨T5, X5, e5, st5⟩ := getS2 X3 hx hZ hown (host := "") (Or.inl (ow hw 333)) Via.refl e3 (SLO.ext F4.2) (g := (mkF m 47 #[vR ra0, vI ((cn1 <<< ((1 : Int32) &&& 31)) + (1 : Int32)), vI ci2] [.int ci2, (.int ((cn1 <<< ((1 : Int32) &&& 31)) + (1 : Int32))), .ref ra0])) rfl (hb hby d55_47)
 refine og T5 (mkF m 52 #[vR ra0, vI ((cn1 <<< ((1 : Int32) &&& 31)) + (1 : Int32)), vI ci2] [(.int ((ci2 >>> ((8 : Int32) &&& 31)).toInt8.toInt32)), (.int ((cn1 <<< ((1 : Int32) &&& 31)) + (1 : Int32))), .ref ra0]) (fun _ k => st5 _ (XS.ishr X5.here hx rfl (hb hby d55_50) rfl (XS.i2b X5.here hx rfl (hb hby d55_51) rfl k))) ?_
 obtain ⟨T6, h6, X6, e6, W6, V6, st6⟩ := own_bst X5 hx hZ e5 V3 rfl (j := ((cn1 <<< ((1 : Int32) &&& 31)) + (1 : Int32))) hn9 ⟨hn10, hn11⟩ (g := (mkF m 52 #[vR ra0, vI ((cn1 <<< ((1 : Int32) &&& 31)) + (1 : Int32)), vI ci2] [(.int ((ci2 >>> ((8 : Int32) &&& 31)).toInt8.toInt32)), (.int ((cn1 <<< ((1 : Int32) &&& 31)) + (1 : Int32))), .ref ra0])) rfl rfl (hb hby d55_52)
 have N6 := Fr.snoc X6 N3 C'
 refine og T6 (mkF m 53 #[vR ra0, vI ((cn1 <<< ((1 : Int32) &&& 31)) + (1 : Int32)), vI ci2] []) st6 ?_
 have KEEP := (((Keep.refl h0 [ra0]).wr W3 (Or.inl (List.mem_of_getElem? (i := 0) rfl))).wr W6 (Or.inl (List.mem_of_getElem? (i := 0) rfl)))
 exact own_leaveN X6 hlk (v := none) (fun _ => rfl) (lb rfl) (lb rfl) (by rw [e6]; exact ⟨rfl, N6, KEEP, V6⟩) (fun fs hr => X6.returnOut hx hret (hb hby d55_53) hr)
abbrev R54_4 : Room := { frames := 1, cells := 1, slots := 2, locals := 14 }
def Q54_4 (Z : State) (ci0 : Int32) (h0 : Heap) (n0 : Nat) (v : Option Value) (h : Heap) (L : List Loc) : Prop := (∃ (b1 : Addr) (k1 : ClassId), v = some (.ref b1) ∧ Fr n0 L ∧ Keep h0 h [] ∧ h0.size ≤ b1 ∧ Exa Z h b1 "[B" ∧ Arv Z h b1 k1 .byte (2 : Int32) (own_by (([((ci0 >>> (0 &&& 31)).toInt8.toInt32)] : List Int32) ++ ([((ci0 >>> (8 &&& 31)).toInt8.toInt32)] : List Int32))) (.int 0))
theorem rm54_4 l Z a0 (hw : HW Z a0) (ci0 : Int32) h0 n0 (OLD : Old Z n0 h0) (Sas : Sta Z Z.heap cN2 "$assertionsDisabled" "Z" (.int 1)) (SHI : Sta Z Z.heap cN2 "HI_BYTE_SHIFT" "I" (.int 0)) (SLO : Sta Z Z.heap cN2 "LO_BYTE_SHIFT" "I" (.int 8)) :
  own_CN l Z y2 jdk_52_method_24_code 2 (some (.array .byte)) [] R54_4 #[.int ci0] h0 (Q54_4 Z ci0 h0 n0) := by
 refine own_entryN (plainFor_of_name pn_0) fun p e s m below meth c s₁ hx hby hml hown hnm hret hlk hZ hh X0 e0 => ?_
 have N0 := Fr.nil n0
 rw [ef_54_4 m ci0]
 refine og s₁ (mkF m 1 #[vI ci0, vU] [.int 2]) (fun _ k => qc X0 hx hby d54_0 rfl k) ?_
 obtain ⟨T1, h1, k1, X1, e1, E1, A1, Ea1, st1⟩ := newPE X0 hx hZ (ow hw 17) e0 (g := (mkF m 1 #[vI ci0, vU] [.int 2])) rfl (hb hby d54_1) rfl (by decide) (cap := 2) (by decide) (lb rfl) (lb rfl) (lb rfl) (ad := "[B") (by decide)
 obtain ⟨b1, gb1⟩ : ∃ z, z = h0.size := ⟨_, rfl⟩
 rw [← gb1] at A1 Ea1 st1
 have g2 : n0 ≤ b1 := Nat.le_trans (own_osz OLD) (Nat.le_of_eq gb1.symm)
 have z3 : h0.size ≤ b1 := Nat.le_trans (Nat.le_refl _) (Nat.le_of_eq gb1.symm)
 have V1 : Arv Z h1 b1 k1 .byte (2 : Int32) (own_by ([] : List Int32)) (.int 0) := Arv.new A1 (by decide)
 refine og T1 (mkF m 7 #[vI ci0, vR b1] [.int ci0, .int 0, .ref b1]) (fun _ k => st1 _ (XS.astoreN X1.here hx rfl (hb hby d54_3) rfl rfl (l' := #[vI ci0, vR b1]) rfl (qa X1 hx hby d54_4 rfl rfl rfl (qc X1 hx hby d54_5 rfl (qi X1 hx hby d54_6 rfl rfl k))))) ?_
 have F4 := (OLD.ext E1)
 obtain ⟨_, T5, L5, X5, hQ5, st5⟩ := own_tc X1 hx hZ hown (ow hw 328) (ow hw 329) (rm55_5 l Z a0 hw b1 k1 ((2 : Int32)) ((0 : Int32)) ci0 h1 n0 F4 Ea1 V1 Sas SHI (by decide : ((0 : Int32) <<< ((1 : Int32) &&& 31)).toNatClampNeg = 0) (by decide : ¬ (((0 : Int32) <<< ((1 : Int32) &&& 31)) < (0 : Int32))) (by decide : ((0 : Int32) <<< ((1 : Int32) &&& 31)) < (2 : Int32)) g2 SLO (by decide : (((0 : Int32) <<< ((1 : Int32) &&& 31)) + (1 : Int32)).toNatClampNeg = 1) (by decide : ¬ ((((0 : Int32) <<< ((1 : Int32) &&& 31)) + (1 : Int32)) < (0 : Int32))) (by decide : (((0 : Int32) <<< ((1 : Int32) &&& 31)) + (1 : Int32)) < (2 : Int32))) (ow hw 330) (ow hw 284) e1 (g := (mkF m 7 #[vI ci0, vR b1] [.int ci0, .int 0, .ref b1])) rfl (zs hml) (argsL := [.ref b1, .int 0, .int ci0]) (rest := []) (lenOf pd_1 rfl) rfl (hb hby d54_7) (W := 0) rfl
 obtain ⟨rfl, Nq5, K5, f6⟩ := hQ5
 have N5 := Fr.app N0 Nq5
 refine og T5 (mkF m 11 #[vI ci0, vR b1] [.ref b1]) (fun _ k => st5.trans (qa X5 hx hby d54_10 rfl rfl rfl k)) ?_
 have F7 := (Ea1.keep K5)
 have KEEP := (((Keep.refl h0 []).ext E1).trans K5 (allS (Or.inr z3) all0))
 exact own_leaveN X5 hlk (v := some (.ref b1)) (own_nr hret) (lb rfl) (lb rfl) (by exact ⟨b1, k1, rfl, N5, KEEP, z3, F7, f6⟩) (own_ra X5 hx hret rfl rfl rfl (hb hby d54_11))
abbrev R4_6 : Room := { frames := 1, cells := 0, slots := 0, locals := 12 }
def Q4_6 (Z : State) (ra0 ra1 : Addr) (kc2 : ClassId) (cs3 : List Int32) (nl3 : Nat) (cn1 : Int32) (h0 : Heap) (n0 : Nat) (v : Option Value) (h : Heap) (L : List Loc) : Prop := (v = none ∧ Fr n0 L ∧ Keep h0 h [ra0] ∧ Fld Z h ra0 cN1 "coder" "B" (.int 1) ∧ Fld Z h ra0 cN1 "value" "[B" (.ref ra1))
theorem rm4_6 l Z a0 (hw : HW Z a0) ra0 ra1 kc2 (cs3 : List Int32) nl3 (cn1 : Int32) h0 n0 (OLD : Old Z n0 h0) (A' : Exa Z h0 ra0 cN1) (B' : Fld Z h0 ra0 cN1 "coder" "B" (.int 0)) (C' : Fld Z h0 ra0 cN1 "value" "[B" .null) (D' : Exa Z h0 ra1 "[B") (E' : cs3.length = nl3) (F' : Arv Z h0 ra1 kc2 .byte cn1 (own_by cs3) (.int 0)) (G' : n0 ≤ ra0) :
  own_CN l Z y3 jdk_42_method_151_code 3 none [] R4_6 #[.ref ra0, .ref ra1, .int 1] h0 (Q4_6 Z ra0 ra1 kc2 cs3 nl3 cn1 h0 n0) := by
 refine own_entryN (plainFor_of_name pn_2) fun p e s m below meth c s₁ hx hby hml hown hnm hret hlk hZ hh X0 e0 => ?_
 have N0 := Fr.nil n0
 rw [ef_4_6 m ra0 ra1]
 refine og s₁ (mkF m 1 #[vR ra0, vR ra1, vI 1] [.ref ra0]) (fun _ k => qa X0 hx hby d4_0 rfl rfl rfl k) ?_
 obtain ⟨T1, X1, e1, st1⟩ := initO X0 hx hZ hown (ow hw 22) (ow hw 23) (ow hw 24) e0 (g := (mkF m 1 #[vR ra0, vR ra1, vI 1] [.ref ra0])) rfl (zs hml) rfl (hb hby d4_1) (by decide) (W := 0) (lb rfl) (by decide)
 refine og T1 (mkF m 6 #[vR ra0, vR ra1, vI 1] [.ref ra1, .ref ra0]) (fun _ k => st1 _ (qa X1 hx hby d4_4 rfl rfl rfl (qa X1 hx hby d4_5 rfl rfl rfl k))) ?_
 obtain ⟨T2, h2, X2, e2, W2, st2⟩ := putF X1 hx hZ hown (host := "") (Or.inl (ow hw 25)) Via.refl e1 C' A' (Or.inr ⟨(ow hw 26), rfl, hnm⟩) (ow hw 13) (ty := (.array .byte)) (by decide) rfl rfl (g := (mkF m 6 #[vR ra0, vR ra1, vI 1] [.ref ra1, .ref ra0])) rfl rfl (hb hby d4_6)
 have Fw2 := C'.same W2
 have N2 := Fr.snoc X2 N0 G'
 refine og T2 (mkF m 11 #[vR ra0, vR ra1, vI 1] [.int 1, .ref ra0]) (fun _ k => st2 _ (qa X2 hx hby d4_9 rfl rfl rfl (qi X2 hx hby d4_10 rfl rfl k))) ?_
 have F3 := (A'.wr W2)
 have F4 := (B'.other W2 (Or.inr (slot_ne (Or.inr (ow hw 28)) (Or.inr (ow hw 26)) (by decide) (t := .byte) (t' := (.array .byte)) (by decide) (by decide))))
 obtain ⟨T5, h5, X5, e5, W5, st5⟩ := putFN X2 hx hZ hown (ow hw 27) Via.refl e2 F4 F3 (Or.inr ⟨(ow hw 28), rfl, hnm⟩) (ow hw 13) (ty := .byte) (v' := (.int (nar .byte (1 : Int32)))) (by decide) rfl (fits_nar_byte _) (g := (mkF m 11 #[vR ra0, vR ra1, vI 1] [.int 1, .ref ra0])) rfl rfl (hb hby d4_11)
 rw [show nar .byte (1 : Int32) = (1 : Int32) from rfl] at W5
 have Fw5 := F4.same W5
 have N5 := Fr.snoc X5 N2 G'
 refine og T5 (mkF m 14 #[vR ra0, vR ra1, vI 1] []) st5 ?_
 have F6 := (Fw2.other W5 (Or.inr (slot_ne (Or.inr (ow hw 26)) (Or.inr (ow hw 28)) (by decide) (t := (.array .byte)) (t' := .byte) (by decide) (by decide))))
 have KEEP := (((Keep.refl h0 [ra0]).wr W2 (Or.inl (List.mem_of_getElem? (i := 0) rfl))).wr W5 (Or.inl (List.mem_of_getElem? (i := 0) rfl)))
 exact own_leaveN X5 hlk (v := none) (fun _ => rfl) (lb rfl) (lb rfl) (by rw [e5]; exact ⟨rfl, N5, KEEP, Fw5, F6⟩) (fun fs hr => X5.returnOut hx hret (hb hby d4_14) hr)
abbrev R3_7 : Room := { frames := 0, cells := 1, slots := 1, locals := 0 }
def Q3_7 (Z : State) (ci0 : Int32) (h0 : Heap) (n0 : Nat) (v : Option Value) (h : Heap) (L : List Loc) : Prop := (∃ (b1 : Addr) (k1 : ClassId), v = some (.ref b1) ∧ Fr n0 L ∧ Keep h0 h [] ∧ h0.size ≤ b1 ∧ Exa Z h b1 "[B" ∧ Arv Z h b1 k1 .byte (1 : Int32) [(.int (ci0.toInt8.toInt32))] (.int 0))
theorem rm3_7 l Z a0 (hw : HW Z a0) (ci0 : Int32) h0 n0 (OLD : Old Z n0 h0) :
  own_CN l Z y4 jdk_43_method_46_code 1 (some (.array .byte)) [] R3_7 #[.int ci0] h0 (Q3_7 Z ci0 h0 n0) := by
 refine own_entryN (plainFor_of_name pn_1) fun p e s m below meth c s₁ hx hby hml hown hnm hret hlk hZ hh X0 e0 => ?_
 have N0 := Fr.nil n0
 rw [ef_2_3 m ci0]
 refine og s₁ (mkF m 1 #[vI ci0] [.int 1]) (fun _ k => qc X0 hx hby d3_0 rfl k) ?_
 obtain ⟨T1, h1, k1, X1, e1, E1, A1, Ea1, st1⟩ := newPE X0 hx hZ (ow hw 17) e0 (g := (mkF m 1 #[vI ci0] [.int 1])) rfl (hb hby d3_1) rfl (by decide) (cap := 1) (by decide) (lb rfl) (lb rfl) (lb rfl) (ad := "[B") (by decide)
 obtain ⟨b1, gb1⟩ : ∃ z, z = h0.size := ⟨_, rfl⟩
 rw [← gb1] at A1 Ea1 st1
 have g2 : n0 ≤ b1 := Nat.le_trans (own_osz OLD) (Nat.le_of_eq gb1.symm)
 have z3 : h0.size ≤ b1 := Nat.le_trans (Nat.le_refl _) (Nat.le_of_eq gb1.symm)
 have V1 : Arv Z h1 b1 k1 .byte (1 : Int32) [.int 0] (.int 0) := (Arv.new A1 (by decide)).pad (pad_rep [] (.int 0) 1)
 refine og T1 (mkF m 7 #[vI ci0] [(.int (ci0.toInt8.toInt32)), .int 0, .ref b1, .ref b1]) (fun _ k => st1 _ (XS.dup X1.here hx rfl (hb hby d3_3) rfl rfl (qc X1 hx hby d3_4 rfl (qi X1 hx hby d3_5 rfl rfl (XS.i2b X1.here hx rfl (hb hby d3_6) rfl k))))) ?_
 obtain ⟨cl4, Ar4, qr4, Sr4, Nr4, Hr4, Gr4⟩ := id V1
 obtain ⟨T4, h4, X4, e4, W4, st4⟩ := stB X1 hx hZ e1 Ar4 (j := (0 : Int32)) (inb_of Sr4 ⟨by decide, by decide⟩) (g := (mkF m 7 #[vI ci0] [(.int (ci0.toInt8.toInt32)), .int 0, .ref b1, .ref b1])) rfl rfl (hb hby d3_7)
 have V4 : Arv Z h4 b1 k1 .byte (1 : Int32) [(.int (nar .byte (ci0.toInt8.toInt32)))] (.int 0) := Arv.set Ar4 qr4 Sr4 Nr4 Hr4 Gr4 (fits_nar_byte _) W4 0 rfl (lb rfl)
 rw [show nar .byte (ci0.toInt8.toInt32) = (ci0.toInt8.toInt32) from (own_b8 _)] at V4
 have N4 := Fr.snoc X4 N0 g2
 refine og T4 (mkF m 8 #[vI ci0] [.ref b1]) st4 ?_
 have F5 := (Ea1.wr W4)
 have KEEP := (((Keep.refl h0 []).ext E1).wr W4 (Or.inr z3))
 exact own_leaveN X4 hlk (v := some (.ref b1)) (own_nr hret) (lb rfl) (lb rfl) (by rw [e4]; exact ⟨b1, k1, rfl, N4, KEEP, z3, F5, V4⟩) (own_ra X4 hx hret rfl rfl rfl (hb hby d3_8))
abbrev R4_8 : Room := { frames := 1, cells := 0, slots := 0, locals := 12 }
def Q4_8 (Z : State) (ra0 ra1 : Addr) (kc2 : ClassId) (cs3 : List Int32) (nl3 : Nat) (cn1 : Int32) (h0 : Heap) (n0 : Nat) (v : Option Value) (h : Heap) (L : List Loc) : Prop := (v = none ∧ Fr n0 L ∧ Keep h0 h [ra0] ∧ Fld Z h ra0 cN1 "coder" "B" (.int 0) ∧ Fld Z h ra0 cN1 "value" "[B" (.ref ra1))
theorem rm4_8 l Z a0 (hw : HW Z a0) ra0 ra1 kc2 (cs3 : List Int32) nl3 (cn1 : Int32) h0 n0 (OLD : Old Z n0 h0) (A' : Exa Z h0 ra0 cN1) (B' : Fld Z h0 ra0 cN1 "coder" "B" (.int 0)) (C' : Fld Z h0 ra0 cN1 "value" "[B" .null) (D' : Exa Z h0 ra1 "[B") (E' : cs3.length = nl3) (F' : own_L cs3) (G' : Arv Z h0 ra1 kc2 .byte cn1 (own_by cs3) (.int 0)) (H' : n0 ≤ ra0) :
  own_CN l Z y3 jdk_42_method_151_code 3 none [] R4_8 #[.ref ra0, .ref ra1, .int 0] h0 (Q4_8 Z ra0 ra1 kc2 cs3 nl3 cn1 h0 n0) := by
 refine own_entryN (plainFor_of_name pn_2) fun p e s m below meth c s₁ hx hby hml hown hnm hret hlk hZ hh X0 e0 => ?_
 have N0 := Fr.nil n0
 rw [ef_4_8 m ra0 ra1]
 refine og s₁ (mkF m 1 #[vR ra0, vR ra1, vI 0] [.ref ra0]) (fun _ k => qa X0 hx hby d4_0 rfl rfl rfl k) ?_
 obtain ⟨T1, X1, e1, st1⟩ := initO X0 hx hZ hown (ow hw 22) (ow hw 23) (ow hw 24) e0 (g := (mkF m 1 #[vR ra0, vR ra1, vI 0] [.ref ra0])) rfl (zs hml) rfl (hb hby d4_1) (by decide) (W := 0) (lb rfl) (by decide)
 refine og T1 (mkF m 6 #[vR ra0, vR ra1, vI 0] [.ref ra1, .ref ra0]) (fun _ k => st1 _ (qa X1 hx hby d4_4 rfl rfl rfl (qa X1 hx hby d4_5 rfl rfl rfl k))) ?_
 obtain ⟨T2, h2, X2, e2, W2, st2⟩ := putF X1 hx hZ hown (host := "") (Or.inl (ow hw 25)) Via.refl e1 C' A' (Or.inr ⟨(ow hw 26), rfl, hnm⟩) (ow hw 13) (ty := (.array .byte)) (by decide) rfl rfl (g := (mkF m 6 #[vR ra0, vR ra1, vI 0] [.ref ra1, .ref ra0])) rfl rfl (hb hby d4_6)
 have Fw2 := C'.same W2
 have N2 := Fr.snoc X2 N0 H'
 refine og T2 (mkF m 11 #[vR ra0, vR ra1, vI 0] [.int 0, .ref ra0]) (fun _ k => st2 _ (qa X2 hx hby d4_9 rfl rfl rfl (qi X2 hx hby d4_10 rfl rfl k))) ?_
 have F3 := (A'.wr W2)
 have F4 := (B'.other W2 (Or.inr (slot_ne (Or.inr (ow hw 28)) (Or.inr (ow hw 26)) (by decide) (t := .byte) (t' := (.array .byte)) (by decide) (by decide))))
 obtain ⟨T5, h5, X5, e5, W5, st5⟩ := putFN X2 hx hZ hown (ow hw 27) Via.refl e2 F4 F3 (Or.inr ⟨(ow hw 28), rfl, hnm⟩) (ow hw 13) (ty := .byte) (v' := (.int (nar .byte (0 : Int32)))) (by decide) rfl (fits_nar_byte _) (g := (mkF m 11 #[vR ra0, vR ra1, vI 0] [.int 0, .ref ra0])) rfl rfl (hb hby d4_11)
 rw [show nar .byte (0 : Int32) = (0 : Int32) from rfl] at W5
 have Fw5 := F4.same W5
 have N5 := Fr.snoc X5 N2 H'
 refine og T5 (mkF m 14 #[vR ra0, vR ra1, vI 0] []) st5 ?_
 have F6 := (Fw2.other W5 (Or.inr (slot_ne (Or.inr (ow hw 26)) (Or.inr (ow hw 28)) (by decide) (t := (.array .byte)) (t' := .byte) (by decide) (by decide))))
 have KEEP := (((Keep.refl h0 [ra0]).wr W2 (Or.inl (List.mem_of_getElem? (i := 0) rfl))).wr W5 (Or.inl (List.mem_of_getElem? (i := 0) rfl)))
 exact own_leaveN X5 hlk (v := none) (fun _ => rfl) (lb rfl) (lb rfl) (by rw [e5]; exact ⟨rfl, N5, KEEP, Fw5, F6⟩) (fun fs hr => X5.returnOut hx hret (hb hby d4_14) hr)
abbrev R1_2 : Room := { frames := 2, cells := 2, slots := 6, locals := 29 }
def Q1_2 (Z : State) (cx G1 : Int32) (h0 : Heap) (n0 : Nat) (v : Option Value) (h : Heap) (L : List Loc) : Prop := (∃ (eq0 eq1 : Addr) (eq2 : ClassId), v = some (.ref eq0) ∧ Fr n0 L ∧ Keep h0 h [] ∧ h0.size ≤ eq0 ∧ h0.size ≤ eq1 ∧ own_st Z h eq0 eq1 ([cx] : List Int32) (1 : Int32))
theorem rm1_2 l Z a0 (hw : HW Z a0) (cx : Int32) (G1 : Int32) h0 n0 (OLD : Old Z n0 h0) (hch : ¬ cx < 0 ∧ ¬ (65535 : Int32) < cx) (O2 : Sta Z Z.heap cN1 "COMPACT_STRINGS" "Z" (.int G1)) (P5 : ¬ (G1 = (0 : Int32))) (Sas : Sta Z Z.heap cN2 "$assertionsDisabled" "Z" (.int 1)) (SHI : Sta Z Z.heap cN2 "HI_BYTE_SHIFT" "I" (.int 0)) (SLO : Sta Z Z.heap cN2 "LO_BYTE_SHIFT" "I" (.int 8)) :
  own_CN l Z y5 jdk_42_method_139_code 1 (some (.object cN1)) [] R1_2 #[.int cx] h0 (Q1_2 Z cx G1 h0 n0) := by
 refine own_entryN (plainFor_of_name pn_2) fun p e s m below meth c s₁ hx hby hml hown hnm hret hlk hZ hh X0 e0 => ?_
 have N0 := Fr.nil n0
 rw [ef_2_3 m cx]
 obtain ⟨T1, X1, e1, st1⟩ := getS2 X0 hx hZ hown (host := "") (Or.inl (ow hw 7)) Via.refl e0 (O2.ext OLD.2) (g := (mkF m 0 #[vI cx] [])) rfl (hb hby d1_0)
 refine og T1 (mkF m 7 #[vI cx] [.int cx]) (fun _ k => st1 _ (XS.ifNo X1.here hx rfl (hb hby d1_3) rfl ((if0 _ _).trans (feq P5).1) (qi X1 hx hby d1_6 rfl rfl k))) ?_
 obtain ⟨_, T2, L2, X2, hQ2, st2⟩ := own_tc X1 hx hZ hown (ow hw 8) (ow hw 9) (rm2_3 l Z a0 hw cx h0 n0 OLD ) (ow hw 11) (ow hw 10) e1 (g := (mkF m 7 #[vI cx] [.int cx])) rfl (zs hml) (argsL := [.int cx]) (rest := []) (lenOf pd_0 rfl) rfl (hb hby d1_7) (W := 0) rfl
 rcases hQ2 with hQ2 | hQ2
 ·
  obtain ⟨hc3, rfl, Nq2, eq2⟩ := hQ2
  have N2 := Fr.app N0 Nq2
  refine og T2 (mkF m 26 #[vI cx] []) (fun _ k => st2.trans (XS.ifYes X2.here hx rfl (pc0 := 10) (pc' := 26) rfl (hb hby d1_10) rfl ((if0 _ _).trans (teq (by decide : (0 : Int32) = (0 : Int32))).1) (by decide) (by decide) k)) ?_
  obtain ⟨T4, h4, X4, e4, E4, A4, D4, U4, st4⟩ := newO X2 hx hZ hown (ow hw 12) (ow hw 13) (ow hw 5) eq2 (g := (mkF m 26 #[vI cx] [])) rfl (hb hby d1_26) (lb rfl) (lb rfl)
  obtain ⟨b4, gb4⟩ : ∃ z, z = h0.size := ⟨_, rfl⟩
  rw [← gb4] at A4 D4 U4 st4
  have g5 : n0 ≤ b4 := Nat.le_trans (own_osz OLD) (Nat.le_of_eq gb4.symm)
  have z6 : h0.size ≤ b4 := Nat.le_trans (Nat.le_refl _) (Nat.le_of_eq gb4.symm)
  refine og T4 (mkF m 31 #[vI cx] [.int cx, .ref b4, .ref b4]) (fun _ k => st4 _ (XS.dup X4.here hx rfl (hb hby d1_29) rfl rfl (qi X4 hx hby d1_30 rfl rfl k))) ?_
  have F7 := (OLD.ext E4)
  obtain ⟨_, T8, L8, X8, hQ8, st8⟩ := own_tc X4 hx hZ hown (ow hw 325) (ow hw 326) (rm54_4 l Z a0 hw cx h4 n0 F7 Sas SHI SLO) (ow hw 327) (ow hw 284) e4 (g := (mkF m 31 #[vI cx] [.int cx, .ref b4, .ref b4])) rfl (zs hml) (argsL := [.int cx]) (rest := [.ref b4, .ref b4]) (lenOf pd_2 rfl) rfl (hb hby d1_31) (W := 2) rfl
  obtain ⟨o9, kc10, rfl, Nq8, K8, f11, f12, f13⟩ := hQ8
  have N8 := Fr.app N2 Nq8
  have g14 : n0 ≤ o9 := Nat.le_trans (own_osz F7) f11
  have F16 := (Nat.le_trans (Nat.le_refl _) E4.1)
  have z15 : h0.size ≤ o9 := Nat.le_trans F16 f11
  refine og T8 (mkF m 35 #[vI cx] [.int 1, .ref o9, .ref b4, .ref b4]) (fun _ k => st8.trans (qc X8 hx hby d1_34 rfl k)) ?_
  have F17 := (A4.keep K8)
  have F18 := ((D4 (Or.inr (ow hw 28)) (ty := .byte) (by decide)).keep K8 nin0)
  have F19 := ((D4 (Or.inr (ow hw 26)) (ty := (.array .byte)) (by decide)).keep K8 nin0)
  have F20 := (F7.keep K8 all0)
  obtain ⟨_, T21, L21, X21, hQ21, st21⟩ := own_sc X8 hx hZ rfl hown (ow hw 18) (ow hw 19) (rm4_6 l Z a0 hw b4 o9 kc10 ((([((cx >>> (0 &&& 31)).toInt8.toInt32)] : List Int32) ++ ([((cx >>> (8 &&& 31)).toInt8.toInt32)] : List Int32))) 2 ((2 : Int32)) T8.heap n0 F20 F17 F18 F19 f12 (own_la rfl rfl) f13 g5) (ow hw 21) (ow hw 5) rfl (g := (mkF m 35 #[vI cx] [.int 1, .ref o9, .ref b4, .ref b4])) rfl (zs hml) (argsL := [.ref o9, .int 1]) (rest := [.ref b4]) (lenOf pd_3 rfl) rfl (hb hby d1_35) (W := 1) rfl
  obtain ⟨rfl, Nq21, K21, f22, f23⟩ := hQ21
  have N21 := Fr.app N8 Nq21
  refine ot T21 (mkF m 38 #[vI cx] [.ref b4]) st21 ?_
  have F25 := (f13.keep K21 (ninS (Ne.symm (own_ne_lo A4.lt f11)) nin0))
  have Vv24 : Arv Z T21.heap o9 kc10 .byte (2 : Int32) (own_by (own_u ([cx] : List Int32))) (.int 0) := F25
  have F27 := (F17.keep K21)
  have S26 : own_st Z T21.heap b4 o9 ([cx] : List Int32) (1 : Int32) := own_stU F27 f23 rfl f22 (own_castz (by decide : (2 : Int32) = ((1 : Int32) <<< ((1 : Int32) &&& 31))) Vv24) ⟨_, List.mem_singleton.mpr rfl, hc3⟩
  have KEEP := ((((Keep.refl h0 []).ext E4).trans K8 all0).trans K21 (allS (Or.inr z6) all0))
  exact own_leaveN X21 hlk (v := some (.ref b4)) (own_nr hret) (lb rfl) (lb rfl) (by exact ⟨b4, o9, kc10, rfl, N21, KEEP, z6, z15, S26⟩) (own_ra X21 hx hret rfl rfl rfl (hb hby d1_38))
 ·
  obtain ⟨hc28, rfl, Nq2, eq2⟩ := hQ2
  have N2 := Fr.app N0 Nq2
  refine og T2 (mkF m 13 #[vI cx] []) (fun _ k => st2.trans (XS.ifNo X2.here hx rfl (hb hby d1_10) rfl ((if0 _ _).trans (feq (by decide : ¬ ((1 : Int32) = (0 : Int32)))).1) k)) ?_
  obtain ⟨T29, h29, X29, e29, E29, A29, D29, U29, st29⟩ := newO X2 hx hZ hown (ow hw 12) (ow hw 13) (ow hw 5) eq2 (g := (mkF m 13 #[vI cx] [])) rfl (hb hby d1_13) (lb rfl) (lb rfl)
  obtain ⟨b29, gb29⟩ : ∃ z, z = h0.size := ⟨_, rfl⟩
  rw [← gb29] at A29 D29 U29 st29
  have g30 : n0 ≤ b29 := Nat.le_trans (own_osz OLD) (Nat.le_of_eq gb29.symm)
  have z31 : h0.size ≤ b29 := Nat.le_trans (Nat.le_refl _) (Nat.le_of_eq gb29.symm)
  refine og T29 (mkF m 18 #[vI cx] [.int cx, .ref b29, .ref b29]) (fun _ k => st29 _ (XS.dup X29.here hx rfl (hb hby d1_16) rfl rfl (qi X29 hx hby d1_17 rfl rfl k))) ?_
  have F32 := (OLD.ext E29)
  obtain ⟨_, T33, L33, X33, hQ33, st33⟩ := own_tc X29 hx hZ hown (ow hw 14) (ow hw 15) (rm3_7 l Z a0 hw cx h29 n0 F32 ) (ow hw 16) (ow hw 10) e29 (g := (mkF m 18 #[vI cx] [.int cx, .ref b29, .ref b29])) rfl (zs hml) (argsL := [.int cx]) (rest := [.ref b29, .ref b29]) (lenOf pd_2 rfl) rfl (hb hby d1_18) (W := 2) rfl
  obtain ⟨o34, kc35, rfl, Nq33, K33, f36, f37, f38⟩ := hQ33
  have N33 := Fr.app N2 Nq33
  have g39 : n0 ≤ o34 := Nat.le_trans (own_osz F32) f36
  have F41 := (Nat.le_trans (Nat.le_refl _) E29.1)
  have z40 : h0.size ≤ o34 := Nat.le_trans F41 f36
  refine og T33 (mkF m 22 #[vI cx] [.int 0, .ref o34, .ref b29, .ref b29]) (fun _ k => st33.trans (qc X33 hx hby d1_21 rfl k)) ?_
  have F42 := (A29.keep K33)
  have F43 := ((D29 (Or.inr (ow hw 28)) (ty := .byte) (by decide)).keep K33 nin0)
  have F44 := ((D29 (Or.inr (ow hw 26)) (ty := (.array .byte)) (by decide)).keep K33 nin0)
  have hp45 : ∀ c ∈ ([cx] : List Int32), ¬ c < 0 ∧ ¬ (255 : Int32) < c := by
   intro c hc
   simp only [List.mem_cons, List.not_mem_nil, or_false] at hc
   rcases hc with rfl
   ·
    exact ⟨hch.1, hc28⟩
  have F46 := (F32.keep K33 all0)
  obtain ⟨_, T47, L47, X47, hQ47, st47⟩ := own_sc X33 hx hZ rfl hown (ow hw 18) (ow hw 19) (rm4_8 l Z a0 hw b29 o34 kc35 (([cx] : List Int32)) 1 ((1 : Int32)) T33.heap n0 F46 F42 F43 F44 f37 rfl hp45 f38 g30) (ow hw 21) (ow hw 5) rfl (g := (mkF m 22 #[vI cx] [.int 0, .ref o34, .ref b29, .ref b29])) rfl (zs hml) (argsL := [.ref o34, .int 0]) (rest := [.ref b29]) (lenOf pd_3 rfl) rfl (hb hby d1_22) (W := 1) rfl
  obtain ⟨rfl, Nq47, K47, f48, f49⟩ := hQ47
  have N47 := Fr.app N33 Nq47
  refine ot T47 (mkF m 25 #[vI cx] [.ref b29]) st47 ?_
  have F50 := (f38.keep K47 (ninS (Ne.symm (own_ne_lo A29.lt f36)) nin0))
  have F52 := (F42.keep K47)
  have S51 : own_st Z T47.heap b29 o34 ([cx] : List Int32) (1 : Int32) := own_stL F52 f49 rfl f48 F50 hp45
  have KEEP := ((((Keep.refl h0 []).ext E29).trans K33 all0).trans K47 (allS (Or.inr z31) all0))
  exact own_leaveN X47 hlk (v := some (.ref b29)) (own_nr hret) (lb rfl) (lb rfl) (by exact ⟨b29, o34, kc35, rfl, N47, KEEP, z31, z40, S51⟩) (own_ra X47 hx hret rfl rfl rfl (hb hby d1_25))
abbrev R7_11 : Room := { frames := 1, cells := 0, slots := 0, locals := 12 }
def Q7_11 (Z : State) (ra0 : Addr) (cn0 : Int32) (h0 : Heap) (n0 : Nat) (v : Option Value) (h : Heap) (L : List Loc) : Prop := (v = none ∧ Fr n0 L ∧ h = h0)
theorem rm7_11 l Z a0 (hw : HW Z a0) ra0 (cn0 : Int32) h0 n0 (OLD : Old Z n0 h0) (A' : Exa Z h0 ra0 cN4) (B' : Fld Z h0 ra0 cN4 "attributes" "Ljava/util/Map;" .null) (C' : Fld Z h0 ra0 cN4 "children" "Ljava/util/List;" .null) (D' : Fld Z h0 ra0 cN4 "document" "Ljava/lang/String;" .null) (E' : Fld Z h0 ra0 cN4 "line" "I" (.int cn0)) (F' : Fld Z h0 ra0 cN4 "name" "Ljava/lang/String;" .null) (G' : Fld Z h0 ra0 cN4 "text" "Ljava/lang/String;" .null) :
  own_CN l Z y6 jdk_30_method_1_code 1 none [] R7_11 #[.ref ra0] h0 (Q7_11 Z ra0 cn0 h0 n0) := by
 refine own_entryN (plainFor_of_name pn_3) fun p e s m below meth c s₁ hx hby hml hown hnm hret hlk hZ hh X0 e0 => ?_
 have N0 := Fr.nil n0
 rw [ef_7_11 m ra0]
 refine og s₁ (mkF m 1 #[vR ra0] [.ref ra0]) (fun _ k => qa X0 hx hby d7_0 rfl rfl rfl k) ?_
 obtain ⟨T1, X1, e1, st1⟩ := initO X0 hx hZ hown (ow hw 40) (ow hw 23) (ow hw 24) e0 (g := (mkF m 1 #[vR ra0] [.ref ra0])) rfl (zs hml) rfl (hb hby d7_1) (by decide) (W := 0) (lb rfl) (by decide)
 refine og T1 (mkF m 4 #[vR ra0] []) st1 ?_
 exact own_leaveN X1 hlk (v := none) (fun _ => rfl) (lb rfl) (lb rfl) (by rw [e1]; exact ⟨rfl, N0, rfl⟩) (fun fs hr => X1.returnOut hx hret (hb hby d7_4) hr)
abbrev R6_10 : Room := { frames := 2, cells := 0, slots := 0, locals := 24 }
def Q6_10 (Z : State) (ra0 ra1 : Addr) (ra2 ra3 : Addr) (ci4 : Int32) (h0 : Heap) (n0 : Nat) (v : Option Value) (h : Heap) (L : List Loc) : Prop := (v = none ∧ Fr n0 L ∧ Keep h0 h [ra0] ∧ Fld Z h ra0 cN4 "attributes" "Ljava/util/Map;" .null ∧ Fld Z h ra0 cN4 "children" "Ljava/util/List;" .null ∧ Fld Z h ra0 cN4 "document" "Ljava/lang/String;" (.ref ra3) ∧ Fld Z h ra0 cN4 "line" "I" (.int ci4) ∧ Fld Z h ra0 cN4 "name" "Ljava/lang/String;" (.ref ra1) ∧ Fld Z h ra0 cN4 "text" "Ljava/lang/String;" (.ref ra2))
theorem rm6_10 l Z a0 (hw : HW Z a0) ra0 ra1 ra2 ra3 (ci4 : Int32) h0 n0 (OLD : Old Z n0 h0) (A' : Exa Z h0 ra0 cN4) (B' : Fld Z h0 ra0 cN4 "attributes" "Ljava/util/Map;" .null) (C' : Fld Z h0 ra0 cN4 "children" "Ljava/util/List;" .null) (D' : Fld Z h0 ra0 cN4 "document" "Ljava/lang/String;" .null) (E' : Fld Z h0 ra0 cN4 "line" "I" (.int 0)) (F' : Fld Z h0 ra0 cN4 "name" "Ljava/lang/String;" .null) (G' : Fld Z h0 ra0 cN4 "text" "Ljava/lang/String;" .null) (H' : n0 ≤ ra0) :
  own_CN l Z y7 prog_28_method_1_code 7 none [] R6_10 #[.ref ra0, .ref ra1, .null, .ref ra2, .null, .ref ra3, .int ci4] h0 (Q6_10 Z ra0 ra1 ra2 ra3 ci4 h0 n0) := by
 refine own_entryN (plainFor_of_name pn_4) fun p e s m below meth c s₁ hx hby hml hown hnm hret hlk hZ hh X0 e0 => ?_
 have N0 := Fr.nil n0
 rw [ef_6_10 m ra0 ra1 ra2 ra3 ci4]
 refine og s₁ (mkF m 1 #[vR ra0, vR ra1, vN, vR ra2, vN, vR ra3, vI ci4] [.ref ra0]) (fun _ k => qa X0 hx hby d6_0 rfl rfl rfl k) ?_
 obtain ⟨_, T1, L1, X1, hQ1, st1⟩ := own_sc X0 hx hZ rfl hown (ow hw 35) (ow hw 36) (rm7_11 l Z a0 hw ra0 ((0 : Int32)) h0 n0 OLD A' B' C' D' E' F' G') (ow hw 39) (ow hw 38) e0 (g := (mkF m 1 #[vR ra0, vR ra1, vN, vR ra2, vN, vR ra3, vI ci4] [.ref ra0])) rfl (zs hml) (argsL := []) (rest := []) (lenOf pd_5 rfl) rfl (hb hby d6_1) (W := 0) rfl
 obtain ⟨rfl, Nq1, eq1⟩ := hQ1
 have N1 := Fr.app N0 Nq1
 refine og T1 (mkF m 6 #[vR ra0, vR ra1, vN, vR ra2, vN, vR ra3, vI ci4] [.ref ra1, .ref ra0]) (fun _ k => st1.trans (qa X1 hx hby d6_4 rfl rfl rfl (qa X1 hx hby d6_5 rfl rfl rfl k))) ?_
 obtain ⟨T2, h2, X2, e2, W2, st2⟩ := putF X1 hx hZ hown (host := "") (Or.inl (ow hw 41)) Via.refl eq1 F' A' (Or.inr ⟨(ow hw 42), rfl, hnm⟩) (ow hw 1) (ty := (.object cN1)) (by decide) rfl rfl (g := (mkF m 6 #[vR ra0, vR ra1, vN, vR ra2, vN, vR ra3, vI ci4] [.ref ra1, .ref ra0])) rfl rfl (hb hby d6_6)
 have Fw2 := F'.same W2
 have N2 := Fr.snoc X2 N1 H'
 refine og T2 (mkF m 11 #[vR ra0, vR ra1, vN, vR ra2, vN, vR ra3, vI ci4] [.null, .ref ra0]) (fun _ k => st2 _ (qa X2 hx hby d6_9 rfl rfl rfl (qa X2 hx hby d6_10 rfl rfl rfl k))) ?_
 have F3 := (A'.wr W2)
 have F4 := (B'.other W2 (Or.inr (slot_ne (Or.inr (ow hw 44)) (Or.inr (ow hw 42)) (by decide) (t := (.object "java/util/Map")) (t' := (.object cN1)) (by decide) (by decide))))
 obtain ⟨T5, h5, X5, e5, W5, st5⟩ := putF X2 hx hZ hown (host := "") (Or.inl (ow hw 43)) Via.refl e2 F4 F3 (Or.inr ⟨(ow hw 44), rfl, hnm⟩) (ow hw 1) (ty := (.object "java/util/Map")) (by decide) rfl rfl (g := (mkF m 11 #[vR ra0, vR ra1, vN, vR ra2, vN, vR ra3, vI ci4] [.null, .ref ra0])) rfl rfl (hb hby d6_11)
 have Fw5 := F4.same W5
 have N5 := Fr.snoc X5 N2 H'
 refine og T5 (mkF m 16 #[vR ra0, vR ra1, vN, vR ra2, vN, vR ra3, vI ci4] [.ref ra2, .ref ra0]) (fun _ k => st5 _ (qa X5 hx hby d6_14 rfl rfl rfl (qa X5 hx hby d6_15 rfl rfl rfl k))) ?_
 have F6 := (F3.wr W5)
 have F7 := ((G'.other W2 (Or.inr (slot_ne (Or.inr (ow hw 46)) (Or.inr (ow hw 42)) (by decide) (t := (.object cN1)) (t' := (.object cN1)) (by decide) (by decide)))).other W5 (Or.inr (slot_ne (Or.inr (ow hw 46)) (Or.inr (ow hw 44)) (by decide) (t := (.object cN1)) (t' := (.object "java/util/Map")) (by decide) (by decide))))
 obtain ⟨T8, h8, X8, e8, W8, st8⟩ := putF X5 hx hZ hown (host := "") (Or.inl (ow hw 45)) Via.refl e5 F7 F6 (Or.inr ⟨(ow hw 46), rfl, hnm⟩) (ow hw 1) (ty := (.object cN1)) (by decide) rfl rfl (g := (mkF m 16 #[vR ra0, vR ra1, vN, vR ra2, vN, vR ra3, vI ci4] [.ref ra2, .ref ra0])) rfl rfl (hb hby d6_16)
 have Fw8 := F7.same W8
 have N8 := Fr.snoc X8 N5 H'
 refine og T8 (mkF m 22 #[vR ra0, vR ra1, vN, vR ra2, vN, vR ra3, vI ci4] [.null, .ref ra0]) (fun _ k => st8 _ (qa X8 hx hby d6_19 rfl rfl rfl (XS.aload X8.here hx rfl (hb hby d6_20) rfl rfl k))) ?_
 have F9 := (F6.wr W8)
 have F10 := (((C'.other W2 (Or.inr (slot_ne (Or.inr (ow hw 48)) (Or.inr (ow hw 42)) (by decide) (t := (.object "java/util/List")) (t' := (.object cN1)) (by decide) (by decide)))).other W5 (Or.inr (slot_ne (Or.inr (ow hw 48)) (Or.inr (ow hw 44)) (by decide) (t := (.object "java/util/List")) (t' := (.object "java/util/Map")) (by decide) (by decide)))).other W8 (Or.inr (slot_ne (Or.inr (ow hw 48)) (Or.inr (ow hw 46)) (by decide) (t := (.object "java/util/List")) (t' := (.object cN1)) (by decide) (by decide))))
 obtain ⟨T11, h11, X11, e11, W11, st11⟩ := putF X8 hx hZ hown (host := "") (Or.inl (ow hw 47)) Via.refl e8 F10 F9 (Or.inr ⟨(ow hw 48), rfl, hnm⟩) (ow hw 1) (ty := (.object "java/util/List")) (by decide) rfl rfl (g := (mkF m 22 #[vR ra0, vR ra1, vN, vR ra2, vN, vR ra3, vI ci4] [.null, .ref ra0])) rfl rfl (hb hby d6_22)
 have Fw11 := F10.same W11
 have N11 := Fr.snoc X11 N8 H'
 refine og T11 (mkF m 28 #[vR ra0, vR ra1, vN, vR ra2, vN, vR ra3, vI ci4] [.ref ra3, .ref ra0]) (fun _ k => st11 _ (qa X11 hx hby d6_25 rfl rfl rfl (XS.aload X11.here hx rfl (hb hby d6_26) rfl rfl k))) ?_
 have F12 := (F9.wr W11)
 have F13 := ((((D'.other W2 (Or.inr (slot_ne (Or.inr (ow hw 50)) (Or.inr (ow hw 42)) (by decide) (t := (.object cN1)) (t' := (.object cN1)) (by decide) (by decide)))).other W5 (Or.inr (slot_ne (Or.inr (ow hw 50)) (Or.inr (ow hw 44)) (by decide) (t := (.object cN1)) (t' := (.object "java/util/Map")) (by decide) (by decide)))).other W8 (Or.inr (slot_ne (Or.inr (ow hw 50)) (Or.inr (ow hw 46)) (by decide) (t := (.object cN1)) (t' := (.object cN1)) (by decide) (by decide)))).other W11 (Or.inr (slot_ne (Or.inr (ow hw 50)) (Or.inr (ow hw 48)) (by decide) (t := (.object cN1)) (t' := (.object "java/util/List")) (by decide) (by decide))))
 obtain ⟨T14, h14, X14, e14, W14, st14⟩ := putF X11 hx hZ hown (host := "") (Or.inl (ow hw 49)) Via.refl e11 F13 F12 (Or.inr ⟨(ow hw 50), rfl, hnm⟩) (ow hw 1) (ty := (.object cN1)) (by decide) rfl rfl (g := (mkF m 28 #[vR ra0, vR ra1, vN, vR ra2, vN, vR ra3, vI ci4] [.ref ra3, .ref ra0])) rfl rfl (hb hby d6_28)
 have Fw14 := F13.same W14
 have N14 := Fr.snoc X14 N11 H'
 refine og T14 (mkF m 34 #[vR ra0, vR ra1, vN, vR ra2, vN, vR ra3, vI ci4] [.int ci4, .ref ra0]) (fun _ k => st14 _ (qa X14 hx hby d6_31 rfl rfl rfl (XS.iload X14.here hx rfl (hb hby d6_32) rfl k))) ?_
 have F15 := (F12.wr W14)
 have F16 := ((((E'.other W2 (Or.inr (slot_ne (Or.inr (ow hw 52)) (Or.inr (ow hw 42)) (by decide) (t := .int) (t' := (.object cN1)) (by decide) (by decide)))).other W5 (Or.inr (slot_ne (Or.inr (ow hw 52)) (Or.inr (ow hw 44)) (by decide) (t := .int) (t' := (.object "java/util/Map")) (by decide) (by decide)))).other W8 (Or.inr (slot_ne (Or.inr (ow hw 52)) (Or.inr (ow hw 46)) (by decide) (t := .int) (t' := (.object cN1)) (by decide) (by decide)))).other W11 (Or.inr (slot_ne (Or.inr (ow hw 52)) (Or.inr (ow hw 48)) (by decide) (t := .int) (t' := (.object "java/util/List")) (by decide) (by decide))))
 have F17 := (F16.other W14 (Or.inr (slot_ne (Or.inr (ow hw 52)) (Or.inr (ow hw 50)) (by decide) (t := .int) (t' := (.object cN1)) (by decide) (by decide))))
 obtain ⟨T18, h18, X18, e18, W18, st18⟩ := putF X14 hx hZ hown (host := "") (Or.inl (ow hw 51)) Via.refl e14 F17 F15 (Or.inr ⟨(ow hw 52), rfl, hnm⟩) (ow hw 1) (ty := .int) (by decide) rfl rfl (g := (mkF m 34 #[vR ra0, vR ra1, vN, vR ra2, vN, vR ra3, vI ci4] [.int ci4, .ref ra0])) rfl rfl (hb hby d6_34)
 have Fw18 := F17.same W18
 have N18 := Fr.snoc X18 N14 H'
 refine og T18 (mkF m 37 #[vR ra0, vR ra1, vN, vR ra2, vN, vR ra3, vI ci4] []) st18 ?_
 have F19 := ((((Fw5.other W8 (Or.inr (slot_ne (Or.inr (ow hw 44)) (Or.inr (ow hw 46)) (by decide) (t := (.object "java/util/Map")) (t' := (.object cN1)) (by decide) (by decide)))).other W11 (Or.inr (slot_ne (Or.inr (ow hw 44)) (Or.inr (ow hw 48)) (by decide) (t := (.object "java/util/Map")) (t' := (.object "java/util/List")) (by decide) (by decide)))).other W14 (Or.inr (slot_ne (Or.inr (ow hw 44)) (Or.inr (ow hw 50)) (by decide) (t := (.object "java/util/Map")) (t' := (.object cN1)) (by decide) (by decide)))).other W18 (Or.inr (slot_ne (Or.inr (ow hw 44)) (Or.inr (ow hw 52)) (by decide) (t := (.object "java/util/Map")) (t' := .int) (by decide) (by decide))))
 have F20 := ((Fw11.other W14 (Or.inr (slot_ne (Or.inr (ow hw 48)) (Or.inr (ow hw 50)) (by decide) (t := (.object "java/util/List")) (t' := (.object cN1)) (by decide) (by decide)))).other W18 (Or.inr (slot_ne (Or.inr (ow hw 48)) (Or.inr (ow hw 52)) (by decide) (t := (.object "java/util/List")) (t' := .int) (by decide) (by decide))))
 have F21 := (Fw14.other W18 (Or.inr (slot_ne (Or.inr (ow hw 50)) (Or.inr (ow hw 52)) (by decide) (t := (.object cN1)) (t' := .int) (by decide) (by decide))))
 have F22 := ((((Fw2.other W5 (Or.inr (slot_ne (Or.inr (ow hw 42)) (Or.inr (ow hw 44)) (by decide) (t := (.object cN1)) (t' := (.object "java/util/Map")) (by decide) (by decide)))).other W8 (Or.inr (slot_ne (Or.inr (ow hw 42)) (Or.inr (ow hw 46)) (by decide) (t := (.object cN1)) (t' := (.object cN1)) (by decide) (by decide)))).other W11 (Or.inr (slot_ne (Or.inr (ow hw 42)) (Or.inr (ow hw 48)) (by decide) (t := (.object cN1)) (t' := (.object "java/util/List")) (by decide) (by decide)))).other W14 (Or.inr (slot_ne (Or.inr (ow hw 42)) (Or.inr (ow hw 50)) (by decide) (t := (.object cN1)) (t' := (.object cN1)) (by decide) (by decide))))
 have F23 := (F22.other W18 (Or.inr (slot_ne (Or.inr (ow hw 42)) (Or.inr (ow hw 52)) (by decide) (t := (.object cN1)) (t' := .int) (by decide) (by decide))))
 have F24 := (((Fw8.other W11 (Or.inr (slot_ne (Or.inr (ow hw 46)) (Or.inr (ow hw 48)) (by decide) (t := (.object cN1)) (t' := (.object "java/util/List")) (by decide) (by decide)))).other W14 (Or.inr (slot_ne (Or.inr (ow hw 46)) (Or.inr (ow hw 50)) (by decide) (t := (.object cN1)) (t' := (.object cN1)) (by decide) (by decide)))).other W18 (Or.inr (slot_ne (Or.inr (ow hw 46)) (Or.inr (ow hw 52)) (by decide) (t := (.object cN1)) (t' := .int) (by decide) (by decide))))
 have K25 := (((((Keep.refl h0 [ra0]).wr W2 (Or.inl (List.mem_of_getElem? (i := 0) rfl))).wr W5 (Or.inl (List.mem_of_getElem? (i := 0) rfl))).wr W8 (Or.inl (List.mem_of_getElem? (i := 0) rfl))).wr W11 (Or.inl (List.mem_of_getElem? (i := 0) rfl)))
 have KEEP := ((K25.wr W14 (Or.inl (List.mem_of_getElem? (i := 0) rfl))).wr W18 (Or.inl (List.mem_of_getElem? (i := 0) rfl)))
 exact own_leaveN X18 hlk (v := none) (fun _ => rfl) (lb rfl) (lb rfl) (by rw [e18]; exact ⟨rfl, N18, KEEP, F19, F20, F21, Fw18, F23, F24⟩) (fun fs hr => X18.returnOut hx hret (hb hby d6_37) hr)
abbrev R10_14 : Room := { frames := 1, cells := 1, slots := 400, locals := 12 }
def Q10_14 (Z : State) (ra0 : Addr) (cn0 cn1 G1 : Int32) (h0 : Heap) (n0 : Nat) (v : Option Value) (h : Heap) (L : List Loc) : Prop := (∃ (b3 : Addr) (k3 : ClassId), v = none ∧ Fr n0 L ∧ Keep h0 h [ra0] ∧ h0.size ≤ b3 ∧ Fld Z h ra0 cN0 "coder" "B" (.int 0) ∧ Fld Z h ra0 cN0 "count" "I" (.int cn0) ∧ Fld Z h ra0 cN0 "maybeLatin1" "Z" (.int 0) ∧ Fld Z h ra0 cN0 "value" "[B" (.ref b3) ∧ Exa Z h b3 "[B" ∧ Arv Z h b3 k3 .byte cn1 (own_by ([] : List Int32)) (.int 0))
theorem rm10_14 l Z a0 (hw : HW Z a0) ra0 (cn0 : Int32) (cn1 : Int32) (G1 : Int32) h0 n0 (OLD : Old Z n0 h0) (A' : Exa Z h0 ra0 cN6) (B' : Fld Z h0 ra0 cN0 "coder" "B" (.int 0)) (C' : Fld Z h0 ra0 cN0 "count" "I" (.int cn0)) (D' : Fld Z h0 ra0 cN0 "maybeLatin1" "Z" (.int 0)) (E' : Fld Z h0 ra0 cN0 "value" "[B" .null) (O2 : Sta Z Z.heap cN1 "COMPACT_STRINGS" "Z" (.int G1)) (P5 : ¬ (G1 = (0 : Int32))) (hn7 : ¬ (cn1 < (0 : Int32))) (hn8 : cn1.toNatClampNeg ≤ 400) (F' : n0 ≤ ra0) :
  own_CN l Z y8 jdk_68_method_2_code 2 none [] R10_14 #[.ref ra0, .int cn1] h0 (Q10_14 Z ra0 cn0 cn1 G1 h0 n0) := by
 refine own_entryN (plainFor_of_name pn_5) fun p e s m below meth c s₁ hx hby hml hown hnm hret hlk hZ hh X0 e0 => ?_
 have N0 := Fr.nil n0
 rw [ef_10_14 m ra0 cn1]
 refine og s₁ (mkF m 1 #[vR ra0, vI cn1] [.ref ra0]) (fun _ k => qa X0 hx hby d10_0 rfl rfl rfl k) ?_
 obtain ⟨T1, X1, e1, st1⟩ := initO X0 hx hZ hown (ow hw 70) (ow hw 23) (ow hw 24) e0 (g := (mkF m 1 #[vR ra0, vI cn1] [.ref ra0])) rfl (zs hml) rfl (hb hby d10_1) (by decide) (W := 0) (lb rfl) (by decide)
 refine og T1 (mkF m 4 #[vR ra0, vI cn1] []) st1 ?_
 obtain ⟨T2, X2, e2, st2⟩ := getS2 X1 hx hZ hown (host := "") (Or.inl (ow hw 71)) Via.refl e1 (O2.ext OLD.2) (g := (mkF m 4 #[vR ra0, vI cn1] [])) rfl (hb hby d10_4)
 refine og T2 (mkF m 12 #[vR ra0, vI cn1] [.int cn1, .ref ra0]) (fun _ k => st2 _ (XS.ifNo X2.here hx rfl (hb hby d10_7) rfl ((if0 _ _).trans (feq P5).1) (qa X2 hx hby d10_10 rfl rfl rfl (qi X2 hx hby d10_11 rfl rfl k)))) ?_
 obtain ⟨T3, h3, k3, X3, e3, E3, A3, Ea3, st3⟩ := newPE X2 hx hZ (ow hw 17) e2 (g := (mkF m 12 #[vR ra0, vI cn1] [.int cn1, .ref ra0])) rfl (hb hby d10_12) rfl hn7 (cap := 400) hn8 (lb rfl) (lb rfl) (lb rfl) (ad := "[B") (by decide)
 obtain ⟨b3, gb3⟩ : ∃ z, z = h0.size := ⟨_, rfl⟩
 rw [← gb3] at A3 Ea3 st3
 have g4 : n0 ≤ b3 := Nat.le_trans (own_osz OLD) (Nat.le_of_eq gb3.symm)
 have z5 : h0.size ≤ b3 := Nat.le_trans (Nat.le_refl _) (Nat.le_of_eq gb3.symm)
 have V3 : Arv Z h3 b3 k3 .byte cn1 (own_by ([] : List Int32)) (.int 0) := Arv.new A3 hn7
 refine og T3 (mkF m 14 #[vR ra0, vI cn1] [.ref b3, .ref ra0]) st3 ?_
 have F6 := (A'.ext E3)
 have F7 := (E'.ext E3)
 obtain ⟨T8, h8, X8, e8, W8, st8⟩ := putF X3 hx hZ hown (host := "") (Or.inl (ow hw 72)) Via.refl e3 F7 F6 (Or.inl (ow hw 73)) (ow hw 59) (ty := (.array .byte)) (by decide) rfl rfl (g := (mkF m 14 #[vR ra0, vI cn1] [.ref b3, .ref ra0])) rfl rfl (hb hby d10_14)
 have Fw8 := F7.same W8
 have N8 := Fr.snoc X8 N0 F'
 refine og T8 (mkF m 19 #[vR ra0, vI cn1] [.int 0, .ref ra0]) (fun _ k => st8 _ (qa X8 hx hby d10_17 rfl rfl rfl (qc X8 hx hby d10_18 rfl k))) ?_
 have F9 := (F6.wr W8)
 have F10 := ((B'.ext E3).other W8 (Or.inr (slot_ne (Or.inl (ow hw 75)) (Or.inl (ow hw 73)) (by decide) (t := .byte) (t' := (.array .byte)) (by decide) (by decide))))
 obtain ⟨T11, h11, X11, e11, W11, st11⟩ := putFN X8 hx hZ hown (ow hw 74) Via.refl e8 F10 F9 (Or.inl (ow hw 75)) (ow hw 59) (ty := .byte) (v' := (.int (nar .byte (0 : Int32)))) (by decide) rfl (fits_nar_byte _) (g := (mkF m 19 #[vR ra0, vI cn1] [.int 0, .ref ra0])) rfl rfl (hb hby d10_19)
 rw [show nar .byte (0 : Int32) = (0 : Int32) from rfl] at W11
 have Fw11 := F10.same W11
 have N11 := Fr.snoc X11 N8 F'
 refine og T11 (mkF m 38 #[vR ra0, vI cn1] []) (fun _ k => st11 _ (XS.goto X11.here hx rfl (pc0 := 22) (pc' := 38) rfl (hb hby d10_22) (by decide) (by decide) k)) ?_
 have F12 := (((C'.ext E3).other W8 (Or.inr (slot_ne (Or.inl (ow hw 97)) (Or.inl (ow hw 73)) (by decide) (t := .int) (t' := (.array .byte)) (by decide) (by decide)))).other W11 (Or.inr (slot_ne (Or.inl (ow hw 97)) (Or.inl (ow hw 75)) (by decide) (t := .int) (t' := .byte) (by decide) (by decide))))
 have F13 := (((D'.ext E3).other W8 (Or.inr (slot_ne (Or.inl (ow hw 368)) (Or.inl (ow hw 73)) (by decide) (t := .boolean) (t' := (.array .byte)) (by decide) (by decide)))).other W11 (Or.inr (slot_ne (Or.inl (ow hw 368)) (Or.inl (ow hw 75)) (by decide) (t := .boolean) (t' := .byte) (by decide) (by decide))))
 have F14 := (Fw8.other W11 (Or.inr (slot_ne (Or.inl (ow hw 73)) (Or.inl (ow hw 75)) (by decide) (t := (.array .byte)) (t' := .byte) (by decide) (by decide))))
 have F15 := ((Ea3.wr W8).wr W11)
 have F16 := ((V3.other W8 (Ne.symm (own_ne_lo A'.lt (Nat.le_of_eq gb3.symm)))).other W11 (Ne.symm (own_ne_lo A'.lt (Nat.le_of_eq gb3.symm))))
 have KEEP := ((((Keep.refl h0 [ra0]).ext E3).wr W8 (Or.inl (List.mem_of_getElem? (i := 0) rfl))).wr W11 (Or.inl (List.mem_of_getElem? (i := 0) rfl)))
 exact own_leaveN X11 hlk (v := none) (fun _ => rfl) (lb rfl) (lb rfl) (by rw [e11]; exact ⟨b3, k3, rfl, N11, KEEP, z5, Fw11, F12, F13, F14, F15, F16⟩) (fun fs hr => X11.returnOut hx hret (hb hby d10_38) hr)
abbrev R9_13 : Room := { frames := 2, cells := 1, slots := 400, locals := 25 }
def Q9_13 (Z : State) (ra0 : Addr) (cn0 G1 : Int32) (h0 : Heap) (n0 : Nat) (v : Option Value) (h : Heap) (L : List Loc) : Prop := (∃ (o2 : Addr) (kc3 : ClassId), v = none ∧ Fr n0 L ∧ Keep h0 h [ra0] ∧ h0.size ≤ o2 ∧ own_sb Z h ra0 o2 ([] : List Int32) (0 : Int32) (16 : Int32) ∧ Fld Z h ra0 cN0 "count" "I" (.int cn0))
theorem rm9_13 l Z a0 (hw : HW Z a0) ra0 (cn0 : Int32) (G1 : Int32) h0 n0 (OLD : Old Z n0 h0) (A' : Exa Z h0 ra0 cN6) (B' : Fld Z h0 ra0 cN0 "coder" "B" (.int 0)) (C' : Fld Z h0 ra0 cN0 "count" "I" (.int cn0)) (D' : Fld Z h0 ra0 cN0 "maybeLatin1" "Z" (.int 0)) (E' : Fld Z h0 ra0 cN0 "value" "[B" .null) (O2 : Sta Z Z.heap cN1 "COMPACT_STRINGS" "Z" (.int G1)) (P5 : ¬ (G1 = (0 : Int32))) (F' : n0 ≤ ra0) :
  own_CN l Z y9 jdk_67_method_1_code 1 none [] R9_13 #[.ref ra0] h0 (Q9_13 Z ra0 cn0 G1 h0 n0) := by
 refine own_entryN (plainFor_of_name pn_6) fun p e s m below meth c s₁ hx hby hml hown hnm hret hlk hZ hh X0 e0 => ?_
 have N0 := Fr.nil n0
 rw [ef_7_11 m ra0]
 refine og s₁ (mkF m 3 #[vR ra0] [.int 16, .ref ra0]) (fun _ k => qa X0 hx hby d9_0 rfl rfl rfl (qb X0 hx hby d9_1 rfl k)) ?_
 obtain ⟨_, T1, L1, X1, hQ1, st1⟩ := own_sc X0 hx hZ rfl hown (ow hw 64) (ow hw 65) (rm10_14 l Z a0 hw ra0 cn0 ((16 : Int32)) G1 h0 n0 OLD A' B' C' D' E' O2 P5 (by decide : ¬ ((16 : Int32) < (0 : Int32))) (by decide : (16 : Int32).toNatClampNeg ≤ 400) F') (ow hw 69) (ow hw 68) e0 (g := (mkF m 3 #[vR ra0] [.int 16, .ref ra0])) rfl (zs hml) (argsL := [.int 16]) (rest := []) (lenOf pd_7 rfl) rfl (hb hby d9_3) (W := 0) rfl
 obtain ⟨o2, kc3, rfl, Nq1, K1, f4, f5, f6, f7, f8, f9, f10⟩ := hQ1
 have N1 := Fr.app N0 Nq1
 have g11 : n0 ≤ o2 := Nat.le_trans (own_osz OLD) f4
 have z12 : h0.size ≤ o2 := Nat.le_trans (Nat.le_refl _) f4
 refine ot T1 (mkF m 6 #[vR ra0] []) st1 ?_
 have hp13 : ∀ c ∈ ([] : List Int32), ¬ c < 0 ∧ ¬ (255 : Int32) < c := own_hpl _ rfl
 have F15 := (A'.keep K1)
 have S14 : own_sb Z T1.heap ra0 o2 ([] : List Int32) (0 : Int32) (16 : Int32) := own_sbL F15 f8 f7 f9 (by decide) f5 f10 hp13
 have KEEP := ((Keep.refl h0 [ra0]).trans K1 (allS (Or.inl (List.mem_of_getElem? (i := 0) rfl)) all0))
 exact own_leaveN X1 hlk (v := none) (fun _ => rfl) (lb rfl) (lb rfl) (by exact ⟨o2, kc3, rfl, N1, KEEP, z12, S14, f6⟩) (fun fs hr => X1.returnOut hx hret (hb hby d9_6) hr)
abbrev R14_18 : Room := { frames := 0, cells := 0, slots := 0, locals := 0 }
def Q14_18 (Z : State) (ra0 : Addr) (G1 w2 : Int32) (h0 : Heap) (n0 : Nat) (v : Option Value) (h : Heap) (L : List Loc) : Prop := (v = some (.int (nar .byte w2)) ∧ Fr n0 L ∧ h = h0)
theorem rm14_18 l Z a0 (hw : HW Z a0) ra0 (G1 : Int32) (w2 : Int32) h0 n0 (OLD : Old Z n0 h0) (O2 : Sta Z Z.heap cN1 "COMPACT_STRINGS" "Z" (.int G1)) (P5 : ¬ (G1 = (0 : Int32))) (A' : Fld Z h0 ra0 cN1 "coder" "B" (.int w2)) :
  own_CN l Z y10 jdk_42_method_152_code 1 (some .byte) [] R14_18 #[.ref ra0] h0 (Q14_18 Z ra0 G1 w2 h0 n0) := by
 refine own_entryN (plainFor_of_name pn_2) fun p e s m below meth c s₁ hx hby hml hown hnm hret hlk hZ hh X0 e0 => ?_
 have N0 := Fr.nil n0
 rw [ef_7_11 m ra0]
 obtain ⟨T1, X1, e1, st1⟩ := getS2 X0 hx hZ hown (host := "") (Or.inl (ow hw 7)) Via.refl e0 (O2.ext OLD.2) (g := (mkF m 0 #[vR ra0] [])) rfl (hb hby d14_0)
 refine og T1 (mkF m 7 #[vR ra0] [.ref ra0]) (fun _ k => st1 _ (XS.ifNo X1.here hx rfl (hb hby d14_3) rfl ((if0 _ _).trans (feq P5).1) (qa X1 hx hby d14_6 rfl rfl rfl k))) ?_
 obtain ⟨T3, X3, e3, st3⟩ := qf X1 hx hZ hown (ow hw 27) e1 A' (g := (mkF m 7 #[vR ra0] [.ref ra0])) rfl rfl hby d14_7
 refine og T3 (mkF m 14 #[vR ra0] [.int w2]) (fun _ k => st3 _ (XS.goto X3.here hx rfl (pc0 := 10) (pc' := 14) rfl (hb hby d14_10) (by decide) (by decide) k)) ?_
 exact own_leaveN X3 hlk (v := some (.int (nar .byte w2))) (own_nr hret) (lb rfl) (lb rfl) (by rw [e3]; exact ⟨rfl, N0, rfl⟩) (fun fs hr => retN X3 hx (t := .byte) hret (by simp) (hb hby d14_14) hr)
abbrev R13_17 : Room := { frames := 1, cells := 0, slots := 0, locals := 13 }
def Q13_17 (Z : State) (sx bx : Addr) (ds : List Int32) (cm G1 : Int32) (h0 : Heap) (n0 : Nat) (v : Option Value) (h : Heap) (L : List Loc) : Prop := (v = some (.int cm) ∧ Fr n0 L ∧ h = h0)
abbrev C13_17 (cm : Int32) : Prop := ((cm >>> ((0 : Int32) &&& 31)) = cm) ∧ (((cm <<< ((1 : Int32) &&& 31)) >>> ((1 : Int32) &&& 31)) = cm)
theorem rm13_17 l Z a0 (hw : HW Z a0) sx bx (ds : List Int32) (cm : Int32) (G1 : Int32) h0 n0 (OLD : Old Z n0 h0) (S_sx : own_st Z h0 sx bx ds cm) (O2 : Sta Z Z.heap cN1 "COMPACT_STRINGS" "Z" (.int G1)) (P5 : ¬ (G1 = (0 : Int32))) (hC : C13_17 cm) :
  own_CN l Z y11 jdk_42_method_54_code 1 (some .int) [] R13_17 #[.ref sx] h0 (Q13_17 Z sx bx ds cm G1 h0 n0) := by
 refine own_entryN (plainFor_of_name pn_2) fun p e s m below meth c s₁ hx hby hml hown hnm hret hlk hZ hh X0 e0 => ?_
 obtain ⟨hn3, hn4⟩ := hC
 have N0 := Fr.nil n0
 rw [ef_7_11 m sx]
 obtain ⟨kc1, ⟨Fc1, Vc1, lc1⟩ | ⟨Fc1, Vc1, lc1⟩⟩ := S_sx.2.2.2
 ·
  refine og s₁ (mkF m 1 #[vR sx] [.ref sx]) (fun _ k => qa X0 hx hby d13_0 rfl rfl rfl k) ?_
  obtain ⟨T2, X2, e2, st2⟩ := getF X0 hx hZ hown (host := "") (Or.inl (ow hw 25)) Via.refl e0 S_sx.2.1 (g := (mkF m 1 #[vR sx] [.ref sx])) rfl rfl (hb hby d13_1)
  refine og T2 (mkF m 4 #[vR sx] [.ref bx]) st2 ?_
  obtain ⟨cl3, Ar3, -, Sr3, Nr3, -, -⟩ := id Vc1
  refine og T2 (mkF m 5 #[vR sx] [.int cm]) (fun t k => X2.arraylength hx (by rw [e2]; exact Ar3.1) (State.isArrayOf_alike hZ.alike Ar3.2.1) (g := (mkF m 4 #[vR sx] [.ref bx])) rfl rfl (hb hby d13_4) t (by rw [len_of Sr3 Nr3]; exact k)) ?_
  refine og T2 (mkF m 6 #[vR sx] [.ref sx, .int cm]) (fun _ k => qa X2 hx hby d13_5 rfl rfl rfl k) ?_
  obtain ⟨_, T4, L4, X4, hQ4, st4⟩ := own_vc X2 hx hZ hown (ow hw 91) (ow hw 92) (ow hw 94) (ow hw 93) S_sx.1 (rm14_18 l Z a0 hw sx G1 ((0 : Int32)) h0 n0 OLD O2 P5 Fc1) (ow hw 95) (ow hw 5) e2 (g := (mkF m 6 #[vR sx] [.ref sx, .int cm])) rfl (zs hml) (argsL := []) (rest := [.int cm]) (lenOf pd_8 rfl) rfl (hb hby d13_6) (W := 1) rfl
  obtain ⟨rfl, Nq4, eq4⟩ := hQ4
  have N4 := Fr.app N0 Nq4
  refine og T4 (mkF m 10 #[vR sx] [(.int (cm >>> ((0 : Int32) &&& 31)))]) (fun _ k => st4.trans (XS.ishr X4.here hx rfl (hb hby d13_9) rfl k)) ?_
  exact own_leaveN X4 hlk (v := some (.int (cm >>> ((0 : Int32) &&& 31)))) (own_nr hret) (lb rfl) (lb rfl) (by rw [eq4]; exact ⟨(by rw [show (cm >>> ((0 : Int32) &&& 31)) = cm from hn3]), N4, rfl⟩) (fun fs hr => retI X4 hx hret (hb hby d13_10) hr)
 ·
  refine og s₁ (mkF m 1 #[vR sx] [.ref sx]) (fun _ k => qa X0 hx hby d13_0 rfl rfl rfl k) ?_
  obtain ⟨T5, X5, e5, st5⟩ := getF X0 hx hZ hown (host := "") (Or.inl (ow hw 25)) Via.refl e0 S_sx.2.1 (g := (mkF m 1 #[vR sx] [.ref sx])) rfl rfl (hb hby d13_1)
  refine og T5 (mkF m 4 #[vR sx] [.ref bx]) st5 ?_
  obtain ⟨cl6, Ar6, -, Sr6, Nr6, -, -⟩ := id Vc1
  refine og T5 (mkF m 5 #[vR sx] [(.int (cm <<< ((1 : Int32) &&& 31)))]) (fun t k => X5.arraylength hx (by rw [e5]; exact Ar6.1) (State.isArrayOf_alike hZ.alike Ar6.2.1) (g := (mkF m 4 #[vR sx] [.ref bx])) rfl rfl (hb hby d13_4) t (by rw [len_of Sr6 Nr6]; exact k)) ?_
  refine og T5 (mkF m 6 #[vR sx] [.ref sx, (.int (cm <<< ((1 : Int32) &&& 31)))]) (fun _ k => qa X5 hx hby d13_5 rfl rfl rfl k) ?_
  obtain ⟨_, T7, L7, X7, hQ7, st7⟩ := own_vc X5 hx hZ hown (ow hw 91) (ow hw 92) (ow hw 94) (ow hw 93) S_sx.1 (rm14_18 l Z a0 hw sx G1 ((1 : Int32)) h0 n0 OLD O2 P5 Fc1) (ow hw 95) (ow hw 5) e5 (g := (mkF m 6 #[vR sx] [.ref sx, (.int (cm <<< ((1 : Int32) &&& 31)))])) rfl (zs hml) (argsL := []) (rest := [(.int (cm <<< ((1 : Int32) &&& 31)))]) (lenOf pd_8 rfl) rfl (hb hby d13_6) (W := 1) rfl
  obtain ⟨rfl, Nq7, eq7⟩ := hQ7
  have N7 := Fr.app N0 Nq7
  refine og T7 (mkF m 10 #[vR sx] [(.int ((cm <<< ((1 : Int32) &&& 31)) >>> ((1 : Int32) &&& 31)))]) (fun _ k => st7.trans (XS.ishr X7.here hx rfl (hb hby d13_9) rfl k)) ?_
  exact own_leaveN X7 hlk (v := some (.int ((cm <<< ((1 : Int32) &&& 31)) >>> ((1 : Int32) &&& 31)))) (own_nr hret) (lb rfl) (lb rfl) (by rw [eq7]; exact ⟨(by rw [show ((cm <<< ((1 : Int32) &&& 31)) >>> ((1 : Int32) &&& 31)) = cm from hn4]), N7, rfl⟩) (fun fs hr => retI X7 hx hret (hb hby d13_10) hr)
abbrev R15_19 : Room := { frames := 0, cells := 0, slots := 0, locals := 0 }
def Q15_19 (Z : State) (sb ta : Addr) (cs : List Int32) (cn K mn : Int32) (h0 : Heap) (n0 : Nat) (v : Option Value) (h : Heap) (L : List Loc) : Prop := (v = none ∧ Fr n0 L ∧ h = h0)
abbrev C15_19 (K : Int32) (mn : Int32) : Prop := (¬ ((0 : Int32) < (mn - (K >>> ((0 : Int32) &&& 31))))) ∧ (¬ ((0 : Int32) < (mn - ((K <<< ((1 : Int32) &&& 31)) >>> ((1 : Int32) &&& 31)))))
theorem rm15_19 l Z a0 (hw : HW Z a0) sb ta (cs : List Int32) (cn : Int32) (K : Int32) (mn : Int32) h0 n0 (OLD : Old Z n0 h0) (S_sb : own_sb Z h0 sb ta cs cn K) (hC : C15_19 K mn) :
  own_CN l Z y12 jdk_68_method_9_code 3 none [] R15_19 #[.ref sb, .int mn] h0 (Q15_19 Z sb ta cs cn K mn h0 n0) := by
 refine own_entryN (plainFor_of_name pn_5) fun p e s m below meth c s₁ hx hby hml hown hnm hret hlk hZ hh X0 e0 => ?_
 obtain ⟨hn1, hn2⟩ := hC
 have N0 := Fr.nil n0
 rw [ef_15_19 m sb mn]
 obtain ⟨kc1, ⟨Fc1, Vc1, lc1⟩ | ⟨Fc1, Vc1, lc1⟩⟩ := S_sb.2.2.2.2.2
 ·
  refine og s₁ (mkF m 1 #[vR sb, vI mn, vU] [.ref sb]) (fun _ k => qa X0 hx hby d15_0 rfl rfl rfl k) ?_
  obtain ⟨T2, X2, e2, st2⟩ := getF X0 hx hZ hown (host := "") (Or.inl (ow hw 72)) Via.refl e0 S_sb.2.1 (g := (mkF m 1 #[vR sb, vI mn, vU] [.ref sb])) rfl rfl (hb hby d15_1)
  refine og T2 (mkF m 4 #[vR sb, vI mn, vU] [.ref ta]) st2 ?_
  obtain ⟨cl3, Ar3, -, Sr3, Nr3, -, -⟩ := id Vc1
  refine og T2 (mkF m 5 #[vR sb, vI mn, vU] [.int K]) (fun t k => X2.arraylength hx (by rw [e2]; exact Ar3.1) (State.isArrayOf_alike hZ.alike Ar3.2.1) (g := (mkF m 4 #[vR sb, vI mn, vU] [.ref ta])) rfl rfl (hb hby d15_4) t (by rw [len_of Sr3 Nr3]; exact k)) ?_
  refine og T2 (mkF m 6 #[vR sb, vI mn, vU] [.ref sb, .int K]) (fun _ k => qa X2 hx hby d15_5 rfl rfl rfl k) ?_
  obtain ⟨T4, X4, e4, st4⟩ := qf X2 hx hZ hown (ow hw 74) e2 Fc1 (g := (mkF m 6 #[vR sb, vI mn, vU] [.ref sb, .int K])) rfl rfl hby d15_6
  refine og T4 (mkF m 38 #[vR sb, vI mn, vI (K >>> ((0 : Int32) &&& 31))] []) (fun _ k => st4 _ (XS.ishr X4.here hx rfl (hb hby d15_9) rfl (XS.istoreN X4.here hx rfl (hb hby d15_10) rfl (l' := #[vR sb, vI mn, vI (K >>> ((0 : Int32) &&& 31))]) rfl (qi X4 hx hby d15_11 rfl rfl (qi X4 hx hby d15_12 rfl rfl (XS.isub X4.here hx rfl (hb hby d15_13) rfl (XS.ifYes X4.here hx rfl (pc0 := 14) (pc' := 38) rfl (hb hby d15_14) rfl ((if0 _ _).trans (flt hn1).2.2.2) (by decide) (by decide) k))))))) ?_
  exact own_leaveN X4 hlk (v := none) (fun _ => rfl) (lb rfl) (lb rfl) (by rw [e4]; exact ⟨rfl, N0, rfl⟩) (fun fs hr => X4.returnOut hx hret (hb hby d15_38) hr)
 ·
  refine og s₁ (mkF m 1 #[vR sb, vI mn, vU] [.ref sb]) (fun _ k => qa X0 hx hby d15_0 rfl rfl rfl k) ?_
  obtain ⟨T5, X5, e5, st5⟩ := getF X0 hx hZ hown (host := "") (Or.inl (ow hw 72)) Via.refl e0 S_sb.2.1 (g := (mkF m 1 #[vR sb, vI mn, vU] [.ref sb])) rfl rfl (hb hby d15_1)
  refine og T5 (mkF m 4 #[vR sb, vI mn, vU] [.ref ta]) st5 ?_
  obtain ⟨cl6, Ar6, -, Sr6, Nr6, -, -⟩ := id Vc1
  refine og T5 (mkF m 5 #[vR sb, vI mn, vU] [(.int (K <<< ((1 : Int32) &&& 31)))]) (fun t k => X5.arraylength hx (by rw [e5]; exact Ar6.1) (State.isArrayOf_alike hZ.alike Ar6.2.1) (g := (mkF m 4 #[vR sb, vI mn, vU] [.ref ta])) rfl rfl (hb hby d15_4) t (by rw [len_of Sr6 Nr6]; exact k)) ?_
  refine og T5 (mkF m 6 #[vR sb, vI mn, vU] [.ref sb, (.int (K <<< ((1 : Int32) &&& 31)))]) (fun _ k => qa X5 hx hby d15_5 rfl rfl rfl k) ?_
  obtain ⟨T7, X7, e7, st7⟩ := qf X5 hx hZ hown (ow hw 74) e5 Fc1 (g := (mkF m 6 #[vR sb, vI mn, vU] [.ref sb, (.int (K <<< ((1 : Int32) &&& 31)))])) rfl rfl hby d15_6
  refine og T7 (mkF m 38 #[vR sb, vI mn, vI ((K <<< ((1 : Int32) &&& 31)) >>> ((1 : Int32) &&& 31))] []) (fun _ k => st7 _ (XS.ishr X7.here hx rfl (hb hby d15_9) rfl (XS.istoreN X7.here hx rfl (hb hby d15_10) rfl (l' := #[vR sb, vI mn, vI ((K <<< ((1 : Int32) &&& 31)) >>> ((1 : Int32) &&& 31))]) rfl (qi X7 hx hby d15_11 rfl rfl (qi X7 hx hby d15_12 rfl rfl (XS.isub X7.here hx rfl (hb hby d15_13) rfl (XS.ifYes X7.here hx rfl (pc0 := 14) (pc' := 38) rfl (hb hby d15_14) rfl ((if0 _ _).trans (flt hn2).2.2.2) (by decide) (by decide) k))))))) ?_
  exact own_leaveN X7 hlk (v := none) (fun _ => rfl) (lb rfl) (lb rfl) (by rw [e7]; exact ⟨rfl, N0, rfl⟩) (fun fs hr => X7.returnOut hx hret (hb hby d15_38) hr)
abbrev R17_21 : Room := { frames := 1, cells := 0, slots := 0, locals := 13 }
def Q17_21 (Z : State) (ra0 : Addr) (cn0 : Int32) (ra1 : Addr) (kc2 : ClassId) (cs3 : List Int32) (nl3 : Nat) (cn2 : Int32) (ra4 ra5 : Addr) (kc6 : ClassId) (cs7 : List Int32) (nl7 : Nat) (cn4 G1 : Int32) (h0 : Heap) (n0 : Nat) (v : Option Value) (h : Heap) (L : List Loc) : Prop := (v = none ∧ Fr n0 L ∧ h = h0)
theorem rm17_21 l Z a0 (hw : HW Z a0) ra0 (cn0 : Int32) ra1 kc2 (cs3 : List Int32) nl3 (cn2 : Int32) ra4 ra5 kc6 (cs7 : List Int32) nl7 (cn4 : Int32) (G1 : Int32) h0 n0 (OLD : Old Z n0 h0) (A' : Exa Z h0 ra0 cN6) (B' : Fld Z h0 ra0 cN0 "coder" "B" (.int 0)) (C' : Fld Z h0 ra0 cN0 "count" "I" (.int cn0)) (D' : Fld Z h0 ra0 cN0 "maybeLatin1" "Z" (.int 0)) (E' : Fld Z h0 ra0 cN0 "value" "[B" (.ref ra1)) (F' : Exa Z h0 ra1 "[B") (G' : cs3.length = nl3) (H' : own_L cs3) (I' : Arv Z h0 ra1 kc2 .byte cn2 (own_by cs3) (.int 0)) (J' : Exa Z h0 ra4 cN1) (K' : Fld Z h0 ra4 cN1 "coder" "B" (.int 0)) (L' : Fld Z h0 ra4 cN1 "value" "[B" (.ref ra5)) (M' : cs7.length = nl7) (N' : own_L cs7) (P' : Arv Z h0 ra5 kc6 .byte cn4 (own_by cs7) (.int 0)) (O2 : Sta Z Z.heap cN1 "COMPACT_STRINGS" "Z" (.int G1)) (P5 : ¬ (G1 = (0 : Int32))) :
  own_CN l Z y13 jdk_68_method_71_code 2 none [] R17_21 #[.ref ra0, .ref ra4] h0 (Q17_21 Z ra0 cn0 ra1 kc2 cs3 nl3 cn2 ra4 ra5 kc6 cs7 nl7 cn4 G1 h0 n0) := by
 refine own_entryN (plainFor_of_name pn_5) fun p e s m below meth c s₁ hx hby hml hown hnm hret hlk hZ hh X0 e0 => ?_
 have N0 := Fr.nil n0
 rw [ef_17_21 m ra0 ra4]
 obtain ⟨T1, X1, e1, st1⟩ := getS2 X0 hx hZ hown (host := "") (Or.inl (ow hw 71)) Via.refl e0 (O2.ext OLD.2) (g := (mkF m 0 #[vR ra0, vR ra4] [])) rfl (hb hby d17_0)
 refine og T1 (mkF m 7 #[vR ra0, vR ra4] [.ref ra0]) (fun _ k => st1 _ (XS.ifNo X1.here hx rfl (hb hby d17_3) rfl ((if0 _ _).trans (feq P5).1) (qa X1 hx hby d17_6 rfl rfl rfl k))) ?_
 obtain ⟨T2, X2, e2, st2⟩ := qf X1 hx hZ hown (ow hw 74) e1 B' (g := (mkF m 7 #[vR ra0, vR ra4] [.ref ra0])) rfl rfl hby d17_7
 refine og T2 (mkF m 11 #[vR ra0, vR ra4] [.ref ra4, .int 0]) (fun _ k => st2 _ (qa X2 hx hby d17_10 rfl rfl rfl k)) ?_
 obtain ⟨_, T3, L3, X3, hQ3, st3⟩ := own_vc X2 hx hZ hown (ow hw 113) (ow hw 92) (ow hw 94) (ow hw 93) J' (rm14_18 l Z a0 hw ra4 G1 ((0 : Int32)) h0 n0 OLD O2 P5 K') (ow hw 95) (ow hw 5) e2 (g := (mkF m 11 #[vR ra0, vR ra4] [.ref ra4, .int 0])) rfl (zs hml) (argsL := []) (rest := [.int 0]) (lenOf pd_8 rfl) rfl (hb hby d17_11) (W := 1) rfl
 obtain ⟨rfl, Nq3, eq3⟩ := hQ3
 have N3 := Fr.app N0 Nq3
 refine og T3 (mkF m 21 #[vR ra0, vR ra4] []) (fun _ k => st3.trans (XS.icmpYes X3.here hx rfl (pc0 := 14) (pc' := 21) rfl (hb hby d17_14) rfl (teq (by decide : (0 : Int32) = (0 : Int32))).1 (by decide) (by decide) k)) ?_
 exact own_leaveN X3 hlk (v := none) (fun _ => rfl) (lb rfl) (lb rfl) (by rw [eq3]; exact ⟨rfl, N3, rfl⟩) (fun fs hr => X3.returnOut hx hret (hb hby d17_21) hr)
abbrev R18_22 : Room := { frames := 1, cells := 0, slots := 0, locals := 18 }
def Q18_22 (Z : State) (ra0 ra1 : Addr) (kc2 : ClassId) (cs3 : List Int32) (nl3 : Nat) (cn1 : Int32) (ra4 : Addr) (kc5 : ClassId) (cs6 : List Int32) (nl6 : Nat) (cn3 cn4 G1 : Int32) (h0 : Heap) (n0 : Nat) (v : Option Value) (h : Heap) (L : List Loc) : Prop := (v = none ∧ Fr n0 L ∧ Keep h0 h [ra4] ∧ Arv Z h ra4 kc5 .byte cn3 (own_by (cs6 ++ cs3)) (.int 0))
theorem rm18_22 l Z a0 (hw : HW Z a0) ra0 ra1 kc2 (cs3 : List Int32) nl3 (cn1 : Int32) ra4 kc5 (cs6 : List Int32) nl6 (cn3 : Int32) (cn4 : Int32) (G1 : Int32) h0 n0 (OLD : Old Z n0 h0) (A' : Exa Z h0 ra0 cN1) (B' : Fld Z h0 ra0 cN1 "coder" "B" (.int 0)) (C' : Fld Z h0 ra0 cN1 "value" "[B" (.ref ra1)) (D' : cs3.length = nl3) (E' : own_L cs3) (F' : Arv Z h0 ra1 kc2 .byte cn1 (own_by cs3) (.int 0)) (G' : Exa Z h0 ra4 "[B") (H' : cs6.length = nl6) (I' : own_L cs6) (J' : Arv Z h0 ra4 kc5 .byte cn3 (own_by cs6) (.int 0)) (O2 : Sta Z Z.heap cN1 "COMPACT_STRINGS" "Z" (.int G1)) (P5 : ¬ (G1 = (0 : Int32))) (hn12 : ¬ ((cn4 <<< ((0 : Int32) &&& 31)) < (0 : Int32))) (hn13 : ¬ (cn1 < (0 : Int32))) (hn14 : cn1.toNatClampNeg ≤ cn1.toNatClampNeg) (hn15 : (cn4 <<< ((0 : Int32) &&& 31)).toNatClampNeg + cn1.toNatClampNeg ≤ cn3.toNatClampNeg) (hn16 : (cn4 <<< ((0 : Int32) &&& 31)).toNatClampNeg = nl6) (hn17 : nl3 ≤ cn1.toNatClampNeg) (K' : n0 ≤ ra4) :
  own_CN l Z y14 jdk_42_method_147_code 4 none [] R18_22 #[.ref ra0, .ref ra4, .int cn4, .int 0] h0 (Q18_22 Z ra0 ra1 kc2 cs3 nl3 cn1 ra4 kc5 cs6 nl6 cn3 cn4 G1 h0 n0) := by
 refine own_entryN (plainFor_of_name pn_2) fun p e s m below meth c s₁ hx hby hml hown hnm hret hlk hZ hh X0 e0 => ?_
 have N0 := Fr.nil n0
 rw [ef_18_22 m ra0 ra4 cn4]
 refine og s₁ (mkF m 1 #[vR ra0, vR ra4, vI cn4, vI 0] [.ref ra0]) (fun _ k => qa X0 hx hby d18_0 rfl rfl rfl k) ?_
 obtain ⟨_, T1, L1, X1, hQ1, st1⟩ := own_vc X0 hx hZ hown (ow hw 91) (ow hw 92) (ow hw 94) (ow hw 93) A' (rm14_18 l Z a0 hw ra0 G1 ((0 : Int32)) h0 n0 OLD O2 P5 B') (ow hw 95) (ow hw 5) e0 (g := (mkF m 1 #[vR ra0, vR ra4, vI cn4, vI 0] [.ref ra0])) rfl (zs hml) (argsL := []) (rest := []) (lenOf pd_8 rfl) rfl (hb hby d18_1) (W := 0) rfl
 obtain ⟨rfl, Nq1, eq1⟩ := hQ1
 have N1 := Fr.app N0 Nq1
 refine og T1 (mkF m 9 #[vR ra0, vR ra4, vI cn4, vI 0] [.ref ra0]) (fun _ k => st1.trans (qi X1 hx hby d18_4 rfl rfl (qn X1 hx hby d18_5 rfl rfl (tq 0) (qa X1 hx hby d18_8 rfl rfl rfl k)))) ?_
 obtain ⟨T2, X2, e2, st2⟩ := qf X1 hx hZ hown (ow hw 25) eq1 C' (g := (mkF m 9 #[vR ra0, vR ra4, vI cn4, vI 0] [.ref ra0])) rfl rfl hby d18_9
 refine og T2 (mkF m 18 #[vR ra0, vR ra4, vI cn4, vI 0] [.ref ra0, (.int (cn4 <<< ((0 : Int32) &&& 31))), .ref ra4, .int 0, .ref ra1]) (fun _ k => st2 _ (qc X2 hx hby d18_12 rfl (qa X2 hx hby d18_13 rfl rfl rfl (qi X2 hx hby d18_14 rfl rfl (qi X2 hx hby d18_15 rfl rfl (XS.ishl X2.here hx rfl (hb hby d18_16) rfl (qa X2 hx hby d18_17 rfl rfl rfl k))))))) ?_
 obtain ⟨T3, X3, e3, st3⟩ := qf X2 hx hZ hown (ow hw 25) e2 C' (g := (mkF m 18 #[vR ra0, vR ra4, vI cn4, vI 0] [.ref ra0, (.int (cn4 <<< ((0 : Int32) &&& 31))), .ref ra4, .int 0, .ref ra1])) rfl rfl hby d18_18
 refine og T3 (mkF m 21 #[vR ra0, vR ra4, vI cn4, vI 0] [.ref ra1, (.int (cn4 <<< ((0 : Int32) &&& 31))), .ref ra4, .int 0, .ref ra1]) st3 ?_
 obtain ⟨cl4, Ar4, -, Sr4, Nr4, -, -⟩ := id F'
 refine og T3 (mkF m 22 #[vR ra0, vR ra4, vI cn4, vI 0] [.int cn1, (.int (cn4 <<< ((0 : Int32) &&& 31))), .ref ra4, .int 0, .ref ra1]) (fun t k => X3.arraylength hx (by rw [e3]; exact Ar4.1) (State.isArrayOf_alike hZ.alike Ar4.2.1) (g := (mkF m 21 #[vR ra0, vR ra4, vI cn4, vI 0] [.ref ra1, (.int (cn4 <<< ((0 : Int32) &&& 31))), .ref ra4, .int 0, .ref ra1])) rfl rfl (hb hby d18_21) t (by rw [len_of Sr4 Nr4]; exact k)) ?_
 obtain ⟨T5, h5, L5, X5, e5, N5, K5, Vq5, st5⟩ := own_cpB X3 hx hZ hown (ow hw 119) (ow hw 122) (ow hw 120) (ow hw 121) e3 F' J' (sp := (0 : Int32)) (dp := (cn4 <<< ((0 : Int32) &&& 31))) (nn := cn1) rfl hn12 hn13 hn14 hn15 (Eq.trans H' (Eq.symm hn16)) (Nat.le_trans (Nat.le_of_eq D') hn17) N1 K' (g := (mkF m 22 #[vR ra0, vR ra4, vI cn4, vI 0] [.int cn1, (.int (cn4 <<< ((0 : Int32) &&& 31))), .ref ra4, .int 0, .ref ra1])) rfl (zs hml) rfl (hb hby d18_22) (lb rfl) (W := 0) (lb rfl) (lb rfl)
 have V5 : Arv Z h5 ra4 kc5 .byte cn3 (own_by (cs6 ++ cs3)) (.int 0) := Vq5
 refine og T5 (mkF m 43 #[vR ra0, vR ra4, vI cn4, vI 0] []) (fun _ k => st5 _ (XS.goto X5.here hx rfl (pc0 := 25) (pc' := 43) rfl (hb hby d18_25) (by decide) (by decide) k)) ?_
 have KEEP := ((Keep.refl h0 [ra4]).trans K5 (allS (Or.inl (List.mem_of_getElem? (i := 0) rfl)) all0))
 exact own_leaveN X5 hlk (v := none) (fun _ => rfl) (lb rfl) (lb rfl) (by rw [e5]; exact ⟨rfl, N5, KEEP, V5⟩) (fun fs hr => X5.returnOut hx hret (hb hby d18_43) hr)
abbrev R30_25 : Room := { frames := 0, cells := 0, slots := 0, locals := 0 }
def Q30_25 (Z : State) (ra0 : Addr) (G1 w2 : Int32) (h0 : Heap) (n0 : Nat) (v : Option Value) (h : Heap) (L : List Loc) : Prop := (w2 = (0 : Int32) ∧ v = some (.int 1) ∧ Fr n0 L ∧ h = h0) ∨ ((¬ (w2 = (0 : Int32))) ∧ v = some (.int 0) ∧ Fr n0 L ∧ h = h0)
theorem rm30_25 l Z a0 (hw : HW Z a0) ra0 (G1 : Int32) (w2 : Int32) h0 n0 (OLD : Old Z n0 h0) (O2 : Sta Z Z.heap cN1 "COMPACT_STRINGS" "Z" (.int G1)) (P5 : ¬ (G1 = (0 : Int32))) (A' : Fld Z h0 ra0 cN0 "coder" "B" (.int w2)) :
  own_CN l Z y15 jdk_68_method_68_code 1 (some .boolean) [] R30_25 #[.ref ra0] h0 (Q30_25 Z ra0 G1 w2 h0 n0) := by
 refine own_entryN (plainFor_of_name pn_5) fun p e s m below meth c s₁ hx hby hml hown hnm hret hlk hZ hh X0 e0 => ?_
 have N0 := Fr.nil n0
 rw [ef_7_11 m ra0]
 obtain ⟨T1, X1, e1, st1⟩ := getS2 X0 hx hZ hown (host := "") (Or.inl (ow hw 71)) Via.refl e0 (O2.ext OLD.2) (g := (mkF m 0 #[vR ra0] [])) rfl (hb hby d30_0)
 refine og T1 (mkF m 7 #[vR ra0] [.ref ra0]) (fun _ k => st1 _ (XS.ifNo X1.here hx rfl (hb hby d30_3) rfl ((if0 _ _).trans (feq P5).1) (qa X1 hx hby d30_6 rfl rfl rfl k))) ?_
 obtain ⟨T3, X3, e3, st3⟩ := qf X1 hx hZ hown (ow hw 74) e1 A' (g := (mkF m 7 #[vR ra0] [.ref ra0])) rfl rfl hby d30_7
 refine og T3 (mkF m 10 #[vR ra0] [.int w2]) st3 ?_
 by_cases hc4 : w2 = (0 : Int32)
 ·
  refine og T3 (mkF m 18 #[vR ra0] [.int 1]) (fun _ k => XS.ifNo X3.here hx rfl (hb hby d30_10) rfl ((if0 _ _).trans (teq hc4).2) (qc X3 hx hby d30_13 rfl (XS.goto X3.here hx rfl (pc0 := 14) (pc' := 18) rfl (hb hby d30_14) (by decide) (by decide) k))) ?_
  exact own_leaveN X3 hlk (v := some (.int (nar .boolean (1 : Int32)))) (own_nr hret) (lb rfl) (lb rfl) (by rw [e3]; exact (Or.inl ⟨hc4, rfl, N0, rfl⟩)) (fun fs hr => retN X3 hx (t := .boolean) hret (by simp) (hb hby d30_18) hr)
 ·
  refine og T3 (mkF m 18 #[vR ra0] [.int 0]) (fun _ k => XS.ifYes X3.here hx rfl (pc0 := 10) (pc' := 17) rfl (hb hby d30_10) rfl ((if0 _ _).trans (feq hc4).2) (by decide) (by decide) (qc X3 hx hby d30_17 rfl k)) ?_
  exact own_leaveN X3 hlk (v := some (.int (nar .boolean (0 : Int32)))) (own_nr hret) (lb rfl) (lb rfl) (by rw [e3]; exact (Or.inr ⟨hc4, rfl, N0, rfl⟩)) (fun fs hr => retN X3 hx (t := .boolean) hret (by simp) (hb hby d30_18) hr)
abbrev R58_27 : Room := { frames := 0, cells := 0, slots := 0, locals := 0 }
def Q58_27 (Z : State) (cn0 : Int32) (h0 : Heap) (n0 : Nat) (v : Option Value) (h : Heap) (L : List Loc) : Prop := (v = some (.int (cn0 <<< ((1 : Int32) &&& 31))) ∧ Fr n0 L ∧ h = h0)
theorem rm58_27 l Z a0 (hw : HW Z a0) (cn0 : Int32) h0 n0 (OLD : Old Z n0 h0) (hn0 : ¬ (cn0 < (0 : Int32))) (hn1 : cn0 < (1073741823 : Int32)) :
  own_CN l Z y16 jdk_52_method_3_code 1 (some .int) [] R58_27 #[.int cn0] h0 (Q58_27 Z cn0 h0 n0) := by
 refine own_entryN (plainFor_of_name pn_0) fun p e s m below meth c s₁ hx hby hml hown hnm hret hlk hZ hh X0 e0 => ?_
 have N0 := Fr.nil n0
 rw [ef_2_3 m cn0]
 refine og s₁ (mkF m 13 #[vI cn0] [.int cn0]) (fun _ k => qi X0 hx hby d58_0 rfl rfl (XS.ifYes X0.here hx rfl (pc0 := 1) (pc' := 12) rfl (hb hby d58_1) rfl ((if0 _ _).trans (flt hn0).2.1) (by decide) (by decide) (qi X0 hx hby d58_12 rfl rfl k))) ?_
 refine og s₁ (mkF m 15 #[vI cn0] [.int 1073741823, .int cn0]) (fun t k => X0.ldcInt hx hown (mvT hZ (ow hw 345)) (g := (mkF m 13 #[vI cn0] [.int cn0])) rfl (hb hby d58_13) t k) ?_
 refine og s₁ (mkF m 58 #[vI cn0] [(.int (cn0 <<< ((1 : Int32) &&& 31)))]) (fun _ k => XS.icmpYes X0.here hx rfl (pc0 := 15) (pc' := 55) rfl (hb hby d58_15) rfl (tlt hn1).1 (by decide) (by decide) (qi X0 hx hby d58_55 rfl rfl (qc X0 hx hby d58_56 rfl (XS.ishl X0.here hx rfl (hb hby d58_57) rfl k)))) ?_
 exact own_leaveN X0 hlk (v := some (.int (cn0 <<< ((1 : Int32) &&& 31)))) (own_nr hret) (lb rfl) (lb rfl) (by rw [e0]; exact ⟨rfl, N0, rfl⟩) (fun fs hr => retI X0 hx hret (hb hby d58_58) hr)
abbrev R57_26 : Room := { frames := 1, cells := 1, slots := 400, locals := 12 }
def Q57_26 (Z : State) (cn0 : Int32) (h0 : Heap) (n0 : Nat) (v : Option Value) (h : Heap) (L : List Loc) : Prop := (∃ (b2 : Addr) (k2 : ClassId), v = some (.ref b2) ∧ Fr n0 L ∧ Keep h0 h [] ∧ h0.size ≤ b2 ∧ Exa Z h b2 "[B" ∧ Arv Z h b2 k2 .byte (cn0 <<< ((1 : Int32) &&& 31)) (own_by ([] : List Int32)) (.int 0))
theorem rm57_26 l Z a0 (hw : HW Z a0) (cn0 : Int32) h0 n0 (OLD : Old Z n0 h0) (hn0 : ¬ (cn0 < (0 : Int32))) (hn1 : cn0 < (1073741823 : Int32)) (hn2 : ¬ ((cn0 <<< ((1 : Int32) &&& 31)) < (0 : Int32))) (hn3 : (cn0 <<< ((1 : Int32) &&& 31)).toNatClampNeg ≤ 400) :
  own_CN l Z y17 jdk_52_method_2_code 1 (some (.array .byte)) [] R57_26 #[.int cn0] h0 (Q57_26 Z cn0 h0 n0) := by
 refine own_entryN (plainFor_of_name pn_0) fun p e s m below meth c s₁ hx hby hml hown hnm hret hlk hZ hh X0 e0 => ?_
 have N0 := Fr.nil n0
 rw [ef_2_3 m cn0]
 refine og s₁ (mkF m 1 #[vI cn0] [.int cn0]) (fun _ k => qi X0 hx hby d57_0 rfl rfl k) ?_
 obtain ⟨_, T1, L1, X1, hQ1, st1⟩ := own_tc X0 hx hZ hown (ow hw 342) (ow hw 343) (rm58_27 l Z a0 hw cn0 h0 n0 OLD hn0 hn1) (ow hw 344) (ow hw 284) e0 (g := (mkF m 1 #[vI cn0] [.int cn0])) rfl (zs hml) (argsL := [.int cn0]) (rest := []) (lenOf pd_13 rfl) rfl (hb hby d57_1) (W := 0) rfl
 obtain ⟨rfl, Nq1, eq1⟩ := hQ1
 have N1 := Fr.app N0 Nq1
 refine ot T1 (mkF m 4 #[vI cn0] [(.int (cn0 <<< ((1 : Int32) &&& 31)))]) st1 ?_
 obtain ⟨T2, h2, k2, X2, e2, E2, A2, Ea2, st2⟩ := newPE X1 hx hZ (ow hw 17) eq1 (g := (mkF m 4 #[vI cn0] [(.int (cn0 <<< ((1 : Int32) &&& 31)))])) rfl (hb hby d57_4) rfl hn2 (cap := 400) hn3 (lb rfl) (lb rfl) (lb rfl) (ad := "[B") (by decide)
 obtain ⟨b2, gb2⟩ : ∃ z, z = h0.size := ⟨_, rfl⟩
 rw [← gb2] at A2 Ea2 st2
 have g3 : n0 ≤ b2 := Nat.le_trans (own_osz OLD) (Nat.le_of_eq gb2.symm)
 have z4 : h0.size ≤ b2 := Nat.le_trans (Nat.le_refl _) (Nat.le_of_eq gb2.symm)
 have V2 : Arv Z h2 b2 k2 .byte (cn0 <<< ((1 : Int32) &&& 31)) (own_by ([] : List Int32)) (.int 0) := Arv.new A2 hn2
 refine og T2 (mkF m 6 #[vI cn0] [.ref b2]) st2 ?_
 have KEEP := ((Keep.refl h0 []).ext E2)
 exact own_leaveN X2 hlk (v := some (.ref b2)) (own_nr hret) (lb rfl) (lb rfl) (by rw [e2]; exact ⟨b2, k2, rfl, N1, KEEP, z4, Ea2, V2⟩) (own_ra X2 hx hret rfl rfl rfl (hb hby d57_6))
abbrev R62_31 : Room := { frames := 0, cells := 0, slots := 0, locals := 0 }
def Q62_31 (Z : State) (ra0 : Addr) (kc1 : ClassId) (cn0 : Int32) (h0 : Heap) (n0 : Nat) (v : Option Value) (h : Heap) (L : List Loc) : Prop := (v = some (.int (cn0 >>> ((1 : Int32) &&& 31))) ∧ Fr n0 L ∧ h = h0)
theorem rm62_31 l Z a0 (hw : HW Z a0) ra0 kc1 (cn0 : Int32) h0 n0 (OLD : Old Z n0 h0) (A' : Exa Z h0 ra0 "[B") (B' : Arv Z h0 ra0 kc1 .byte cn0 (own_by ([] : List Int32)) (.int 0)) :
  own_CN l Z y18 jdk_52_method_6_code 1 (some .int) [] R62_31 #[.ref ra0] h0 (Q62_31 Z ra0 kc1 cn0 h0 n0) := by
 refine own_entryN (plainFor_of_name pn_0) fun p e s m below meth c s₁ hx hby hml hown hnm hret hlk hZ hh X0 e0 => ?_
 have N0 := Fr.nil n0
 rw [ef_7_11 m ra0]
 refine og s₁ (mkF m 1 #[vR ra0] [.ref ra0]) (fun _ k => qa X0 hx hby d62_0 rfl rfl rfl k) ?_
 obtain ⟨cl1, Ar1, -, Sr1, Nr1, -, -⟩ := id B'
 refine og s₁ (mkF m 2 #[vR ra0] [.int cn0]) (fun t k => X0.arraylength hx (by rw [e0]; exact Ar1.1) (State.isArrayOf_alike hZ.alike Ar1.2.1) (g := (mkF m 1 #[vR ra0] [.ref ra0])) rfl rfl (hb hby d62_1) t (by rw [len_of Sr1 Nr1]; exact k)) ?_
 refine og s₁ (mkF m 4 #[vR ra0] [(.int (cn0 >>> ((1 : Int32) &&& 31)))]) (fun _ k => qc X0 hx hby d62_2 rfl (XS.ishr X0.here hx rfl (hb hby d62_3) rfl k)) ?_
 exact own_leaveN X0 hlk (v := some (.int (cn0 >>> ((1 : Int32) &&& 31)))) (own_nr hret) (lb rfl) (lb rfl) (by rw [e0]; exact ⟨rfl, N0, rfl⟩) (fun fs hr => retI X0 hx hret (hb hby d62_4) hr)
abbrev R64_33 : Room := { frames := 0, cells := 0, slots := 0, locals := 0 }
def Q64_33 (Z : State) (cn0 cn1 cn2 : Int32) (cv0 : Value) (h0 : Heap) (n0 : Nat) (v : Option Value) (h : Heap) (L : List Loc) : Prop := (v = some (.int cn0) ∧ Fr n0 L ∧ h = h0)
theorem rm64_33 l Z a0 (hw : HW Z a0) (cn0 : Int32) (cn1 : Int32) (cn2 : Int32) (cv0 : Value) h0 n0 (OLD : Old Z n0 h0) (hn0 : ¬ (((cn2 ||| cn0) ||| cn1) < (0 : Int32))) (hn1 : ¬ ((cn2 - cn0) < cn1)) (rf_cv0 : cv0.isRef = true) :
  own_CN l Z y19 jdk_41_method_13_code 4 (some .int) [] R64_33 #[.int cn0, .int cn1, .int cn2, cv0] h0 (Q64_33 Z cn0 cn1 cn2 cv0 h0 n0) := by
 refine own_entryN (plainFor_of_name pn_7) fun p e s m below meth c s₁ hx hby hml hown hnm hret hlk hZ hh X0 e0 => ?_
 have N0 := Fr.nil n0
 rw [ef_64_33 m cn0 cn1 cn2 cv0 rf_cv0]
 refine og s₁ (mkF m 12 #[vI cn0, vI cn1, vI cn2, .val cv0] [(.int (cn2 - cn0)), .int cn1]) (fun _ k => qi X0 hx hby d64_0 rfl rfl (qi X0 hx hby d64_1 rfl rfl (XS.ior X0.here hx rfl (hb hby d64_2) rfl (qi X0 hx hby d64_3 rfl rfl (XS.ior X0.here hx rfl (hb hby d64_4) rfl (XS.ifNo X0.here hx rfl (hb hby d64_5) rfl ((if0 _ _).trans (flt hn0).1) (qi X0 hx hby d64_8 rfl rfl (qi X0 hx hby d64_9 rfl rfl (qi X0 hx hby d64_10 rfl rfl (XS.isub X0.here hx rfl (hb hby d64_11) rfl k)))))))))) ?_
 refine og s₁ (mkF m 24 #[vI cn0, vI cn1, vI cn2, .val cv0] [.int cn0]) (fun _ k => XS.icmpYes X0.here hx rfl (pc0 := 12) (pc' := 23) rfl (hb hby d64_12) rfl (flt hn1).2.2.2 (by decide) (by decide) (qi X0 hx hby d64_23 rfl rfl k)) ?_
 exact own_leaveN X0 hlk (v := some (.int cn0)) (own_nr hret) (lb rfl) (lb rfl) (by rw [e0]; exact ⟨rfl, N0, rfl⟩) (fun fs hr => retI X0 hx hret (hb hby d64_24) hr)
abbrev R63_32 : Room := { frames := 1, cells := 0, slots := 0, locals := 15 }
def Q63_32 (Z : State) (cn0 cn1 cn2 : Int32) (G3 : Value) (h0 : Heap) (n0 : Nat) (v : Option Value) (h : Heap) (L : List Loc) : Prop := (v = some (.int cn0) ∧ Fr n0 L ∧ h = h0)
theorem rm63_32 l Z a0 (hw : HW Z a0) (cn0 : Int32) (cn1 : Int32) (cn2 : Int32) (G3 : Value) h0 n0 (OLD : Old Z n0 h0) (O4 : Sta Z Z.heap cN5 "SIOOBE_FORMATTER" "Ljava/util/function/BiFunction;" G3) (hn1 : ¬ (((cn2 ||| cn0) ||| cn1) < (0 : Int32))) (hn2 : ¬ ((cn2 - cn0) < cn1)) (rG3 : G3.isRef = true) :
  own_CN l Z y20 jdk_42_method_157_code 3 (some .int) [] R63_32 #[.int cn0, .int cn1, .int cn2] h0 (Q63_32 Z cn0 cn1 cn2 G3 h0 n0) := by
 refine own_entryN (plainFor_of_name pn_2) fun p e s m below meth c s₁ hx hby hml hown hnm hret hlk hZ hh X0 e0 => ?_
 have N0 := Fr.nil n0
 rw [ef_63_32 m cn0 cn1 cn2]
 refine og s₁ (mkF m 3 #[vI cn0, vI cn1, vI cn2] [.int cn2, .int cn1, .int cn0]) (fun _ k => qi X0 hx hby d63_0 rfl rfl (qi X0 hx hby d63_1 rfl rfl (qi X0 hx hby d63_2 rfl rfl k))) ?_
 obtain ⟨T1, X1, e1, st1⟩ := getS2 X0 hx hZ hown (host := "") (Or.inl (ow hw 361)) Via.refl e0 (O4.ext OLD.2) (g := (mkF m 3 #[vI cn0, vI cn1, vI cn2] [.int cn2, .int cn1, .int cn0])) rfl (hb hby d63_3)
 refine og T1 (mkF m 6 #[vI cn0, vI cn1, vI cn2] [G3, .int cn2, .int cn1, .int cn0]) st1 ?_
 obtain ⟨_, T2, L2, X2, hQ2, st2⟩ := own_tc X1 hx hZ hown (ow hw 363) (ow hw 364) (rm64_33 l Z a0 hw cn0 cn1 cn2 G3 h0 n0 OLD hn1 hn2 rG3) (ow hw 365) (ow hw 362) e1 (g := (mkF m 6 #[vI cn0, vI cn1, vI cn2] [G3, .int cn2, .int cn1, .int cn0])) rfl (zs hml) (argsL := [.int cn0, .int cn1, .int cn2, G3]) (rest := []) (lenOf pd_16 rfl) rfl (hb hby d63_6) (W := 0) rfl
 obtain ⟨rfl, Nq2, eq2⟩ := hQ2
 have N2 := Fr.app N0 Nq2
 refine ot T2 (mkF m 9 #[vI cn0, vI cn1, vI cn2] [.int cn0]) st2 ?_
 exact own_leaveN X2 hlk (v := some (.int cn0)) (own_nr hret) (lb rfl) (lb rfl) (by rw [eq2]; exact ⟨rfl, N2, rfl⟩) (fun fs hr => retI X2 hx hret (hb hby d63_9) hr)
abbrev R61_30 : Room := { frames := 2, cells := 0, slots := 0, locals := 29 }
def Q61_30 (Z : State) (cn0 cn1 : Int32) (ra0 : Addr) (kc1 : ClassId) (cn2 : Int32) (G3 : Value) (h0 : Heap) (n0 : Nat) (v : Option Value) (h : Heap) (L : List Loc) : Prop := (v = none ∧ Fr n0 L ∧ h = h0)
theorem rm61_30 l Z a0 (hw : HW Z a0) (cn0 : Int32) (cn1 : Int32) ra0 kc1 (cn2 : Int32) (G3 : Value) h0 n0 (OLD : Old Z n0 h0) (A' : Exa Z h0 ra0 "[B") (B' : Arv Z h0 ra0 kc1 .byte cn2 (own_by ([] : List Int32)) (.int 0)) (O4 : Sta Z Z.heap cN5 "SIOOBE_FORMATTER" "Ljava/util/function/BiFunction;" G3) (hn3 : ¬ ((((cn2 >>> ((1 : Int32) &&& 31)) ||| cn0) ||| cn1) < (0 : Int32))) (hn4 : ¬ (((cn2 >>> ((1 : Int32) &&& 31)) - cn0) < cn1)) (rG3 : G3.isRef = true) :
  own_CN l Z y21 jdk_52_method_94_code 3 none [] R61_30 #[.int cn0, .int cn1, .ref ra0] h0 (Q61_30 Z cn0 cn1 ra0 kc1 cn2 G3 h0 n0) := by
 refine own_entryN (plainFor_of_name pn_0) fun p e s m below meth c s₁ hx hby hml hown hnm hret hlk hZ hh X0 e0 => ?_
 have N0 := Fr.nil n0
 rw [ef_61_30 m cn0 cn1 ra0]
 refine og s₁ (mkF m 3 #[vI cn0, vI cn1, vR ra0] [.ref ra0, .int cn1, .int cn0]) (fun _ k => qi X0 hx hby d61_0 rfl rfl (qi X0 hx hby d61_1 rfl rfl (qa X0 hx hby d61_2 rfl rfl rfl k))) ?_
 obtain ⟨_, T1, L1, X1, hQ1, st1⟩ := own_tc X0 hx hZ hown (ow hw 355) (ow hw 356) (rm62_31 l Z a0 hw ra0 kc1 cn2 h0 n0 OLD A' B') (ow hw 357) (ow hw 284) e0 (g := (mkF m 3 #[vI cn0, vI cn1, vR ra0] [.ref ra0, .int cn1, .int cn0])) rfl (zs hml) (argsL := [.ref ra0]) (rest := [.int cn1, .int cn0]) (lenOf pd_15 rfl) rfl (hb hby d61_3) (W := 2) rfl
 obtain ⟨rfl, Nq1, eq1⟩ := hQ1
 have N1 := Fr.app N0 Nq1
 refine ot T1 (mkF m 6 #[vI cn0, vI cn1, vR ra0] [(.int (cn2 >>> ((1 : Int32) &&& 31))), .int cn1, .int cn0]) st1 ?_
 obtain ⟨_, T2, L2, X2, hQ2, st2⟩ := own_tc X1 hx hZ hown (ow hw 358) (ow hw 359) (rm63_32 l Z a0 hw cn0 cn1 ((cn2 >>> ((1 : Int32) &&& 31))) G3 h0 n0 OLD O4 hn3 hn4 rG3) (ow hw 360) (ow hw 5) eq1 (g := (mkF m 6 #[vI cn0, vI cn1, vR ra0] [(.int (cn2 >>> ((1 : Int32) &&& 31))), .int cn1, .int cn0])) rfl (zs hml) (argsL := [.int cn0, .int cn1, (.int (cn2 >>> ((1 : Int32) &&& 31)))]) (rest := []) (lenOf pd_17 rfl) rfl (hb hby d61_6) (W := 0) rfl
 obtain ⟨rfl, Nq2, eq2⟩ := hQ2
 have N2 := Fr.app N1 Nq2
 refine og T2 (mkF m 10 #[vI cn0, vI cn1, vR ra0] []) (fun _ k => st2.trans (XS.pop X2.here hx rfl (hb hby d61_9) rfl rfl k)) ?_
 exact own_leaveN X2 hlk (v := none) (fun _ => rfl) (lb rfl) (lb rfl) (by rw [eq2]; exact ⟨rfl, N2, rfl⟩) (fun fs hr => X2.returnOut hx hret (hb hby d61_10) hr)
abbrev R60_29 : Room := { frames := 3, cells := 0, slots := 0, locals := 43 }
def Q60_29 (Z : State) (ra0 : Addr) (kc1 : ClassId) (cs2 : List Int32) (nl2 : Nat) (cn1 cn2 : Int32) (ra3 : Addr) (kc4 : ClassId) (cn3 cn4 cn5 : Int32) (G3 : Value) (h0 : Heap) (n0 : Nat) (v : Option Value) (h : Heap) (L : List Loc) : Prop := (v = none ∧ Fr n0 L ∧ Keep h0 h [ra3] ∧ Arv Z h ra3 kc4 .byte cn3 (own_by (own_u cs2)) (.int 0))
theorem rm60_29 l Z a0 (hw : HW Z a0) ra0 kc1 (cs2 : List Int32) nl2 (cn1 : Int32) (cn2 : Int32) ra3 kc4 (cn3 : Int32) (cn4 : Int32) (cn5 : Int32) (G3 : Value) h0 n0 (OLD : Old Z n0 h0) (A' : Exa Z h0 ra0 "[B") (B' : cs2.length = nl2) (C' : own_L cs2) (D' : Arv Z h0 ra0 kc1 .byte cn1 (own_by cs2) (.int 0)) (E' : Exa Z h0 ra3 "[B") (F' : Arv Z h0 ra3 kc4 .byte cn3 (own_by ([] : List Int32)) (.int 0)) (O4 : Sta Z Z.heap cN5 "SIOOBE_FORMATTER" "Ljava/util/function/BiFunction;" G3) (hn7 : ¬ ((((cn3 >>> ((1 : Int32) &&& 31)) ||| cn4) ||| cn5) < (0 : Int32))) (hn8 : ¬ (((cn3 >>> ((1 : Int32) &&& 31)) - cn4) < cn5)) (rG3 : G3.isRef = true) (hn10 : cn5.toNatClampNeg = nl2) (hn11 : 2 * cn4.toNatClampNeg = 0) (hn12 : cn2 = (0 : Int32)) (hn13 : 2 * (cn4.toNatClampNeg + cn5.toNatClampNeg) ≤ cn3.toNatClampNeg) (hn14 : cn3.toNatClampNeg ≤ 400) (hn15 : cn5.toNatClampNeg ≤ cn1.toNatClampNeg) (hn16 : ¬ (cn4 < (0 : Int32))) (hn17 : ¬ (cn5 < (0 : Int32))) (ne_ra0_ra3 : ra0 ≠ ra3) (Sas : Sta Z Z.heap cN2 "$assertionsDisabled" "Z" (.int 1)) (SHI : Sta Z Z.heap cN2 "HI_BYTE_SHIFT" "I" (.int 0)) (G' : n0 ≤ ra3) (SLO : Sta Z Z.heap cN2 "LO_BYTE_SHIFT" "I" (.int 8)) :
  own_CN l Z y22 jdk_52_method_86_code 6 none [] R60_29 #[.ref ra0, .int cn2, .ref ra3, .int cn4, .int cn5] h0 (Q60_29 Z ra0 kc1 cs2 nl2 cn1 cn2 ra3 kc4 cn3 cn4 cn5 G3 h0 n0) := by
 refine own_entryN (plainFor_of_name pn_0) fun p e s m below meth c s₁ hx hby hml hown hnm hret hlk hZ hh X0 e0 => ?_
 have N0 := Fr.nil n0
 rw [ef_60_29 m ra0 cn2 ra3 cn4 cn5]
 refine og s₁ (mkF m 4 #[vR ra0, vI cn2, vR ra3, vI cn4, vI cn5, vU] [.ref ra3, .int cn5, .int cn4]) (fun _ k => qi X0 hx hby d60_0 rfl rfl (XS.iload X0.here hx rfl (hb hby d60_1) rfl (qa X0 hx hby d60_3 rfl rfl rfl k))) ?_
 obtain ⟨_, T1, L1, X1, hQ1, st1⟩ := own_tc X0 hx hZ hown (ow hw 352) (ow hw 353) (rm61_30 l Z a0 hw cn4 cn5 ra3 kc4 cn3 G3 h0 n0 OLD E' F' O4 hn7 hn8 rG3) (ow hw 354) (ow hw 284) e0 (g := (mkF m 4 #[vR ra0, vI cn2, vR ra3, vI cn4, vI cn5, vU] [.ref ra3, .int cn5, .int cn4])) rfl (zs hml) (argsL := [.int cn4, .int cn5, .ref ra3]) (rest := []) (lenOf pd_18 rfl) rfl (hb hby d60_4) (W := 0) rfl
 obtain ⟨rfl, Nq1, eq1⟩ := hQ1
 have N1 := Fr.app N0 Nq1
 refine og T1 (mkF m 10 #[vR ra0, vI cn2, vR ra3, vI cn4, vI cn5, vI 0] []) (fun _ k => st1.trans (qc X1 hx hby d60_7 rfl (XS.istore X1.here hx rfl (hb hby d60_8) rfl (l' := #[vR ra0, vI cn2, vR ra3, vI cn4, vI cn5, vI 0]) rfl k))) ?_
 have hcn : cs2.length = cn5.toNatClampNeg := Eq.trans B' (Eq.symm hn10)
 have hdn : ([] : List Int32).length = 2 * cn4.toNatClampNeg := Eq.trans rfl (Eq.symm hn11)
 have hso : cn2 = (0 : Int32) := hn12
 have hzz : own_lpz cn4 cn5 cn1 cn3 := ⟨hn13, hn14, hn15, hn16, hn17⟩
 have J2 : ∀ (q2 q1 : List Int32), cs2 = q1 ++ q2 → ∀ (ii sj dj : Int32), ii = Int32.ofNat q1.length → sj = Int32.ofNat q1.length → dj = Int32.ofNat (cn4.toNatClampNeg + q1.length) → ∀ (Tq : State) (Lq : List Loc) (hq' : Heap), own_at2 X1 Tq Lq 0 0 → Tq.heap = hq' → Fr n0 Lq → Keep h0 hq' [ra3] → Arv Z hq' ra3 kc4 .byte cn3 (own_by (([] : List Int32) ++ own_u q1)) (.int 0) → own_Fin p.tables e below (own_PN s (Q60_29 Z ra0 kc1 cs2 nl2 cn1 cn2 ra3 kc4 cn3 cn4 cn5 G3 h0 n0) R60_29.cells R60_29.slots) Tq (mkF m 10 #[vR ra0, vI sj, vR ra3, vI dj, vI cn5, vI ii] []) := by
  intro q2
  induction q2 with
  | nil =>
   intro q1 hq ii sj dj hii hsj hdj Tq Lq hq' Xq eq Nq Kq Vq
   unfold own_at2 at Xq
   rw [List.append_nil] at hq
   subst hq
   rw [List.nil_append] at Vq
   refine og Tq (mkF m 41 #[vR ra0, vI sj, vR ra3, vI dj, vI cn5, vI ii] []) (fun _ k => XS.iload Xq.here hx rfl (hb hby d60_10) rfl (XS.iload Xq.here hx rfl (hb hby d60_12) rfl (XS.icmpYes Xq.here hx rfl (pc0 := 14) (pc' := 41) rfl (hb hby d60_14) rfl (flt (own_lpE hii hcn hzz)).2.1 (by decide) (by decide) k))) ?_
   have KEEP := ((Keep.refl h0 [ra3]).trans Kq (allS (Or.inl (List.mem_of_getElem? (i := 0) rfl)) all0))
   exact own_leaveN Xq hlk (v := none) (fun _ => rfl) (lb rfl) (lb rfl) (by rw [eq]; exact ⟨rfl, Nq, KEEP, Vq⟩) (fun fs hr => Xq.returnOut hx hret (hb hby d60_41) hr)
  | cons cq q2 ih =>
   intro q1 hq ii sj dj hii hsj hdj Tq Lq hq' Xq eq Nq Kq Vq
   unfold own_at2 at Xq
   refine og Tq (mkF m 27 #[vR ra0, vI (sj + (1 : Int32)), vR ra3, vI (dj + (1 : Int32)), vI cn5, vI ii] [.int sj, .ref ra0, .int dj, .ref ra3]) (fun _ k => XS.iload Xq.here hx rfl (hb hby d60_10) rfl (XS.iload Xq.here hx rfl (hb hby d60_12) rfl (qn Xq hx hby d60_14 rfl rfl (tlt (own_lpT hii hcn hzz hq)).2.1 (qa Xq hx hby d60_17 rfl rfl rfl (qi Xq hx hby d60_18 rfl rfl (XS.iinc Xq.here hx rfl (hb hby d60_19) rfl (l' := #[vR ra0, vI sj, vR ra3, vI (dj + (1 : Int32)), vI cn5, vI ii]) rfl (qa Xq hx hby d60_22 rfl rfl rfl (qi Xq hx hby d60_23 rfl rfl (XS.iinc Xq.here hx rfl (hb hby d60_24) rfl (l' := #[vR ra0, vI (sj + (1 : Int32)), vR ra3, vI (dj + (1 : Int32)), vI cn5, vI ii]) rfl k))))))))) ?_
   have F3 := (D'.keep Kq (ninS ne_ra0_ra3 nin0))
   obtain ⟨cl4, Ar4, qr4, Sr4, Nr4, Hr4, Gr4⟩ := id F3
   have hi4 : ¬ (sj < 0 ∨ cl4.slots.size ≤ (sj).toNatClampNeg) := inb_of Sr4 (own_lpB hsj hcn hzz hq)
   refine og Tq (mkF m 28 #[vR ra0, vI (sj + (1 : Int32)), vR ra3, vI (dj + (1 : Int32)), vI cn5, vI ii] [(.int (cq.toInt8.toInt32)), .int dj, .ref ra3]) (fun t k => Xq.baloadBytes hx (j := sj) (v := (.int (cq.toInt8.toInt32))) (by rw [eq]; exact Ar4.1) (State.isArrayOf_alike hZ.alike Ar4.2.1) Ar4.2.2 hi4 (Has.at Hr4 hi4 (own_lpV hsj hcn hzz hq)) (g := (mkF m 27 #[vR ra0, vI (sj + (1 : Int32)), vR ra3, vI (dj + (1 : Int32)), vI cn5, vI ii] [.int sj, .ref ra0, .int dj, .ref ra3])) rfl rfl (hb hby d60_27) t k) ?_
   refine og Tq (mkF m 32 #[vR ra0, vI (sj + (1 : Int32)), vR ra3, vI (dj + (1 : Int32)), vI cn5, vI ii] [(.int ((cq.toInt8.toInt32) &&& (255 : Int32))), .int dj, .ref ra3]) (fun _ k => XS.sipush Xq.here hx rfl (hb hby d60_28) (XS.iand Xq.here hx rfl (hb hby d60_31) rfl k)) ?_
   rw [own_m8 (C' cq (by rw [hq]; simp))]
   have F5 := (OLD.keep Kq (allS G' all0))
   obtain ⟨_, T6, L6, X6, hQ6, st6⟩ := own_tc Xq hx hZ hown (ow hw 328) (ow hw 329) (rm55_1 l Z a0 hw ra3 kc4 cn3 ((([] : List Int32) ++ own_u q1)) dj cq ((2 * (cn4.toNatClampNeg + q1.length))) hq' n0 F5 Vq (own_pl hdn) Sas SHI (own_pcs hdj hcn hzz hq).1 (own_pcs hdj hcn hzz hq).2.1 (own_pcs hdj hcn hzz hq).2.2.1 G' SLO (own_pcs hdj hcn hzz hq).2.2.2.1 (own_pcs hdj hcn hzz hq).2.2.2.2.1 (own_pcs hdj hcn hzz hq).2.2.2.2.2) (ow hw 330) (ow hw 284) eq (g := (mkF m 32 #[vR ra0, vI (sj + (1 : Int32)), vR ra3, vI (dj + (1 : Int32)), vI cn5, vI ii] [.int cq, .int dj, .ref ra3])) rfl (zs hml) (argsL := [.ref ra3, .int dj, .int cq]) (rest := []) (lenOf pd_1 rfl) rfl (hb hby d60_32) (W := 0) rfl
   obtain ⟨rfl, Nq6, K6, f7⟩ := hQ6
   have N6 := Fr.app Nq Nq6
   refine og T6 (mkF m 10 #[vR ra0, vI (sj + (1 : Int32)), vR ra3, vI (dj + (1 : Int32)), vI cn5, vI (ii + (1 : Int32))] []) (fun _ k => st6.trans (XS.iinc X6.here hx rfl (hb hby d60_35) rfl (l' := #[vR ra0, vI (sj + (1 : Int32)), vR ra3, vI (dj + (1 : Int32)), vI cn5, vI (ii + (1 : Int32))]) rfl (XS.goto X6.here hx rfl (pc0 := 38) (pc' := 10) rfl (hb hby d60_38) (by decide) (by decide) k))) ?_
   exact ih (q1 ++ [cq]) (by rw [hq, List.append_assoc]; rfl) _ _ _ (own_inc1 hii) (own_inc1 hsj) (own_inc2 hdj) _ _ _ (own_wk X6 (lb rfl) (lb rfl)) rfl N6 (Kq.trans K6 (allS (Or.inl (List.mem_of_getElem? (i := 0) rfl)) all0)) (own_uc f7)
 exact J2 cs2 [] rfl _ _ _ rfl (by rw [hso]; rfl) (own_d0 hzz) _ _ _ X1 eq1 N1 (Keep.refl _ _) (by rw [show own_u [] = [] from rfl, List.append_nil]; exact F')
abbrev R59_28 : Room := { frames := 4, cells := 0, slots := 0, locals := 60 }
def Q59_28 (Z : State) (ra0 : Addr) (kc1 : ClassId) (cs2 : List Int32) (nl2 : Nat) (cn1 cn2 : Int32) (ra3 : Addr) (kc4 : ClassId) (cn3 cn4 cn5 : Int32) (G3 : Value) (h0 : Heap) (n0 : Nat) (v : Option Value) (h : Heap) (L : List Loc) : Prop := (v = none ∧ Fr n0 L ∧ Keep h0 h [ra3] ∧ Arv Z h ra3 kc4 .byte cn3 (own_by (own_u cs2)) (.int 0))
theorem rm59_28 l Z a0 (hw : HW Z a0) ra0 kc1 (cs2 : List Int32) nl2 (cn1 : Int32) (cn2 : Int32) ra3 kc4 (cn3 : Int32) (cn4 : Int32) (cn5 : Int32) (G3 : Value) h0 n0 (OLD : Old Z n0 h0) (A' : Exa Z h0 ra0 "[B") (B' : cs2.length = nl2) (C' : own_L cs2) (D' : Arv Z h0 ra0 kc1 .byte cn1 (own_by cs2) (.int 0)) (E' : Exa Z h0 ra3 "[B") (F' : Arv Z h0 ra3 kc4 .byte cn3 (own_by ([] : List Int32)) (.int 0)) (O4 : Sta Z Z.heap cN5 "SIOOBE_FORMATTER" "Ljava/util/function/BiFunction;" G3) (hn7 : ¬ ((((cn3 >>> ((1 : Int32) &&& 31)) ||| cn4) ||| cn5) < (0 : Int32))) (hn8 : ¬ (((cn3 >>> ((1 : Int32) &&& 31)) - cn4) < cn5)) (rG3 : G3.isRef = true) (hn10 : cn5.toNatClampNeg = nl2) (hn11 : 2 * cn4.toNatClampNeg = 0) (hn12 : cn2 = (0 : Int32)) (hn13 : 2 * (cn4.toNatClampNeg + cn5.toNatClampNeg) ≤ cn3.toNatClampNeg) (hn14 : cn3.toNatClampNeg ≤ 400) (hn15 : cn5.toNatClampNeg ≤ cn1.toNatClampNeg) (hn16 : ¬ (cn4 < (0 : Int32))) (hn17 : ¬ (cn5 < (0 : Int32))) (ne_ra0_ra3 : ra0 ≠ ra3) (Sas : Sta Z Z.heap cN2 "$assertionsDisabled" "Z" (.int 1)) (SHI : Sta Z Z.heap cN2 "HI_BYTE_SHIFT" "I" (.int 0)) (G' : n0 ≤ ra3) (SLO : Sta Z Z.heap cN2 "LO_BYTE_SHIFT" "I" (.int 8)) :
  own_CN l Z y23 jdk_43_method_50_code 5 none [] R59_28 #[.ref ra0, .int cn2, .ref ra3, .int cn4, .int cn5] h0 (Q59_28 Z ra0 kc1 cs2 nl2 cn1 cn2 ra3 kc4 cn3 cn4 cn5 G3 h0 n0) := by
 refine own_entryN (plainFor_of_name pn_1) fun p e s m below meth c s₁ hx hby hml hown hnm hret hlk hZ hh X0 e0 => ?_
 have N0 := Fr.nil n0
 rw [ef_59_28 m ra0 cn2 ra3 cn4 cn5]
 refine og s₁ (mkF m 6 #[vR ra0, vI cn2, vR ra3, vI cn4, vI cn5] [.int cn5, .int cn4, .ref ra3, .int cn2, .ref ra0]) (fun _ k => qa X0 hx hby d59_0 rfl rfl rfl (qi X0 hx hby d59_1 rfl rfl (qa X0 hx hby d59_2 rfl rfl rfl (qi X0 hx hby d59_3 rfl rfl (XS.iload X0.here hx rfl (hb hby d59_4) rfl k))))) ?_
 obtain ⟨_, T1, L1, X1, hQ1, st1⟩ := own_tc X0 hx hZ hown (ow hw 349) (ow hw 350) (rm60_29 l Z a0 hw ra0 kc1 cs2 nl2 cn1 cn2 ra3 kc4 cn3 cn4 cn5 G3 h0 n0 OLD A' B' C' D' E' F' O4 hn7 hn8 rG3 hn10 hn11 hn12 hn13 hn14 hn15 hn16 hn17 ne_ra0_ra3 Sas SHI G' SLO) (ow hw 351) (ow hw 284) e0 (g := (mkF m 6 #[vR ra0, vI cn2, vR ra3, vI cn4, vI cn5] [.int cn5, .int cn4, .ref ra3, .int cn2, .ref ra0])) rfl (zs hml) (argsL := [.ref ra0, .int cn2, .ref ra3, .int cn4, .int cn5]) (rest := []) (lenOf pd_19 rfl) rfl (hb hby d59_6) (W := 0) rfl
 obtain ⟨rfl, Nq1, K1, f2⟩ := hQ1
 have N1 := Fr.app N0 Nq1
 refine ot T1 (mkF m 9 #[vR ra0, vI cn2, vR ra3, vI cn4, vI cn5] []) st1 ?_
 have KEEP := ((Keep.refl h0 [ra3]).trans K1 (allS (Or.inl (List.mem_of_getElem? (i := 0) rfl)) all0))
 exact own_leaveN X1 hlk (v := none) (fun _ => rfl) (lb rfl) (lb rfl) (by exact ⟨rfl, N1, KEEP, f2⟩) (fun fs hr => X1.returnOut hx hret (hb hby d59_9) hr)
abbrev R56_24 : Room := { frames := 5, cells := 1, slots := 400, locals := 76 }
def Q56_24 (Z : State) (ra0 : Addr) (cn0 : Int32) (ra1 : Addr) (kc2 : ClassId) (cs3 : List Int32) (nl3 : Nat) (cn2 G1 : Int32) (G3 : Value) (h0 : Heap) (n0 : Nat) (v : Option Value) (h : Heap) (L : List Loc) : Prop := (∃ (o6 : Addr) (kc7 : ClassId), v = none ∧ Fr n0 L ∧ Keep h0 h [ra0] ∧ h0.size ≤ o6 ∧ Fld Z h ra0 cN0 "coder" "B" (.int 1) ∧ Fld Z h ra0 cN0 "count" "I" (.int cn0) ∧ Fld Z h ra0 cN0 "maybeLatin1" "Z" (.int 0) ∧ Fld Z h ra0 cN0 "value" "[B" (.ref o6) ∧ Exa Z h o6 "[B" ∧ Arv Z h o6 kc7 .byte (cn2 <<< ((1 : Int32) &&& 31)) (own_by (own_u cs3)) (.int 0))
theorem rm56_24 l Z a0 (hw : HW Z a0) ra0 (cn0 : Int32) ra1 kc2 (cs3 : List Int32) nl3 (cn2 : Int32) (G1 : Int32) (G3 : Value) h0 n0 (OLD : Old Z n0 h0) (A' : Exa Z h0 ra0 cN6) (B' : Fld Z h0 ra0 cN0 "coder" "B" (.int 0)) (C' : Fld Z h0 ra0 cN0 "count" "I" (.int cn0)) (D' : Fld Z h0 ra0 cN0 "maybeLatin1" "Z" (.int 0)) (E' : Fld Z h0 ra0 cN0 "value" "[B" (.ref ra1)) (F' : Exa Z h0 ra1 "[B") (G' : cs3.length = nl3) (H' : own_L cs3) (I' : Arv Z h0 ra1 kc2 .byte cn2 (own_by cs3) (.int 0)) (O2 : Sta Z Z.heap cN1 "COMPACT_STRINGS" "Z" (.int G1)) (P5 : ¬ (G1 = (0 : Int32))) (hn11 : ¬ (cn2 < (0 : Int32))) (hn12 : cn2 < (1073741823 : Int32)) (hn13 : ¬ ((cn2 <<< ((1 : Int32) &&& 31)) < (0 : Int32))) (hn14 : (cn2 <<< ((1 : Int32) &&& 31)).toNatClampNeg ≤ 400) (O4 : Sta Z Z.heap cN5 "SIOOBE_FORMATTER" "Ljava/util/function/BiFunction;" G3) (hn16 : ¬ (((((cn2 <<< ((1 : Int32) &&& 31)) >>> ((1 : Int32) &&& 31)) ||| (0 : Int32)) ||| cn0) < (0 : Int32))) (hn17 : ¬ ((((cn2 <<< ((1 : Int32) &&& 31)) >>> ((1 : Int32) &&& 31)) - (0 : Int32)) < cn0)) (rG3 : G3.isRef = true) (hn19 : cn0.toNatClampNeg = nl3) (hn20 : 2 * ((0 : Int32).toNatClampNeg + cn0.toNatClampNeg) ≤ (cn2 <<< ((1 : Int32) &&& 31)).toNatClampNeg) (hn21 : cn0.toNatClampNeg ≤ cn2.toNatClampNeg) (hn22 : ¬ (cn0 < (0 : Int32))) (Sas : Sta Z Z.heap cN2 "$assertionsDisabled" "Z" (.int 1)) (SHI : Sta Z Z.heap cN2 "HI_BYTE_SHIFT" "I" (.int 0)) (SLO : Sta Z Z.heap cN2 "LO_BYTE_SHIFT" "I" (.int 8)) (J' : n0 ≤ ra0) :
  own_CN l Z y24 jdk_68_method_11_code 2 none [] R56_24 #[.ref ra0] h0 (Q56_24 Z ra0 cn0 ra1 kc2 cs3 nl3 cn2 G1 G3 h0 n0) := by
 refine own_entryN (plainFor_of_name pn_5) fun p e s m below meth c s₁ hx hby hml hown hnm hret hlk hZ hh X0 e0 => ?_
 have N0 := Fr.nil n0
 rw [ef_56_24 m ra0]
 refine og s₁ (mkF m 1 #[vR ra0, vU] [.ref ra0]) (fun _ k => qa X0 hx hby d56_0 rfl rfl rfl k) ?_
 obtain ⟨_, T1, L1, X1, hQ1, st1⟩ := own_vc X0 hx hZ hown (ow hw 320) (ow hw 174) (ow hw 176) (ow hw 175) A' (rm30_25 l Z a0 hw ra0 G1 ((0 : Int32)) h0 n0 OLD O2 P5 B') (ow hw 177) (ow hw 68) e0 (g := (mkF m 1 #[vR ra0, vU] [.ref ra0])) rfl (zs hml) (argsL := []) (rest := []) (lenOf pd_12 rfl) rfl (hb hby d56_1) (W := 0) rfl
 rcases hQ1 with hQ1 | hQ1
 ·
  obtain ⟨hc2, rfl, Nq1, eq1⟩ := hQ1
  have N1 := Fr.app N0 Nq1
  refine og T1 (mkF m 9 #[vR ra0, vU] [.ref ra0]) (fun _ k => st1.trans (XS.ifYes X1.here hx rfl (pc0 := 4) (pc' := 8) rfl (hb hby d56_4) rfl ((if0 _ _).trans (feq (by decide : ¬ ((1 : Int32) = (0 : Int32)))).2) (by decide) (by decide) (qa X1 hx hby d56_8 rfl rfl rfl k))) ?_
  obtain ⟨T3, X3, e3, st3⟩ := qf X1 hx hZ hown (ow hw 72) eq1 E' (g := (mkF m 9 #[vR ra0, vU] [.ref ra0])) rfl rfl hby d56_9
  refine og T3 (mkF m 12 #[vR ra0, vU] [.ref ra1]) st3 ?_
  obtain ⟨cl4, Ar4, -, Sr4, Nr4, -, -⟩ := id I'
  refine og T3 (mkF m 13 #[vR ra0, vU] [.int cn2]) (fun t k => X3.arraylength hx (by rw [e3]; exact Ar4.1) (State.isArrayOf_alike hZ.alike Ar4.2.1) (g := (mkF m 12 #[vR ra0, vU] [.ref ra1])) rfl rfl (hb hby d56_12) t (by rw [len_of Sr4 Nr4]; exact k)) ?_
  obtain ⟨_, T5, L5, X5, hQ5, st5⟩ := own_tc X3 hx hZ hown (ow hw 339) (ow hw 340) (rm57_26 l Z a0 hw cn2 h0 n0 OLD hn11 hn12 hn13 hn14) (ow hw 341) (ow hw 284) e3 (g := (mkF m 13 #[vR ra0, vU] [.int cn2])) rfl (zs hml) (argsL := [.int cn2]) (rest := []) (lenOf pd_14 rfl) rfl (hb hby d56_13) (W := 0) rfl
  obtain ⟨o6, kc7, rfl, Nq5, K5, f8, f9, f10⟩ := hQ5
  have N5 := Fr.app N1 Nq5
  have g11 : n0 ≤ o6 := Nat.le_trans (own_osz OLD) f8
  have z12 : h0.size ≤ o6 := Nat.le_trans (Nat.le_refl _) f8
  refine og T5 (mkF m 18 #[vR ra0, vR o6] [.ref ra0]) (fun _ k => st5.trans (XS.astoreN X5.here hx rfl (hb hby d56_16) rfl rfl (l' := #[vR ra0, vR o6]) rfl (qa X5 hx hby d56_17 rfl rfl rfl k))) ?_
  have F13 := (E'.keep K5 nin0)
  obtain ⟨T14, X14, e14, st14⟩ := qf X5 hx hZ hown (ow hw 72) rfl F13 (g := (mkF m 18 #[vR ra0, vR o6] [.ref ra0])) rfl rfl hby d56_18
  refine og T14 (mkF m 25 #[vR ra0, vR o6] [.ref ra0, .int 0, .ref o6, .int 0, .ref ra1]) (fun _ k => st14 _ (qc X14 hx hby d56_21 rfl (qa X14 hx hby d56_22 rfl rfl rfl (qc X14 hx hby d56_23 rfl (qa X14 hx hby d56_24 rfl rfl rfl k))))) ?_
  have F15 := (C'.keep K5 nin0)
  obtain ⟨T16, X16, e16, st16⟩ := qf X14 hx hZ hown (ow hw 96) e14 F15 (g := (mkF m 25 #[vR ra0, vR o6] [.ref ra0, .int 0, .ref o6, .int 0, .ref ra1])) rfl rfl hby d56_25
  refine og T16 (mkF m 28 #[vR ra0, vR o6] [.int cn0, .int 0, .ref o6, .int 0, .ref ra1]) st16 ?_
  have F17 := (F'.keep K5)
  have F18 := (I'.keep K5 nin0)
  have F19 := (OLD.keep K5 all0)
  obtain ⟨_, T20, L20, X20, hQ20, st20⟩ := own_tc X16 hx hZ hown (ow hw 346) (ow hw 347) (rm59_28 l Z a0 hw ra1 kc2 cs3 nl3 cn2 ((0 : Int32)) o6 kc7 ((cn2 <<< ((1 : Int32) &&& 31))) ((0 : Int32)) cn0 G3 T5.heap n0 F19 F17 G' H' F18 f9 f10 O4 hn16 hn17 rG3 hn19 (by decide : 2 * (0 : Int32).toNatClampNeg = 0) hc2 hn20 hn14 hn21 (by decide : ¬ ((0 : Int32) < (0 : Int32))) hn22 (own_ne_lo F'.lt f8) Sas SHI g11 SLO) (ow hw 348) (ow hw 10) e16 (g := (mkF m 28 #[vR ra0, vR o6] [.int cn0, .int 0, .ref o6, .int 0, .ref ra1])) rfl (zs hml) (argsL := [.ref ra1, .int 0, .ref o6, .int 0, .int cn0]) (rest := []) (lenOf pd_19 rfl) rfl (hb hby d56_28) (W := 0) rfl
  obtain ⟨rfl, Nq20, K20, f21⟩ := hQ20
  have N20 := Fr.app N5 Nq20
  refine og T20 (mkF m 33 #[vR ra0, vR o6] [.ref o6, .ref ra0]) (fun _ k => st20.trans (qa X20 hx hby d56_31 rfl rfl rfl (qa X20 hx hby d56_32 rfl rfl rfl k))) ?_
  have F22 := ((A'.keep K5).keep K20)
  have F23 := (F13.keep K20 (ninS (own_ne_lo A'.lt f8) nin0))
  obtain ⟨T24, h24, X24, e24, W24, st24⟩ := putF X20 hx hZ hown (host := "") (Or.inl (ow hw 72)) Via.refl rfl F23 F22 (Or.inl (ow hw 73)) (ow hw 59) (ty := (.array .byte)) (by decide) rfl rfl (g := (mkF m 33 #[vR ra0, vR o6] [.ref o6, .ref ra0])) rfl rfl (hb hby d56_33)
  have Fw24 := F23.same W24
  have N24 := Fr.snoc X24 N20 J'
  refine og T24 (mkF m 38 #[vR ra0, vR o6] [.int 1, .ref ra0]) (fun _ k => st24 _ (qa X24 hx hby d56_36 rfl rfl rfl (qc X24 hx hby d56_37 rfl k))) ?_
  have F25 := (F22.wr W24)
  have F26 := (((B'.keep K5 nin0).keep K20 (ninS (own_ne_lo A'.lt f8) nin0)).other W24 (Or.inr (slot_ne (Or.inl (ow hw 75)) (Or.inl (ow hw 73)) (by decide) (t := .byte) (t' := (.array .byte)) (by decide) (by decide))))
  obtain ⟨T27, h27, X27, e27, W27, st27⟩ := putFN X24 hx hZ hown (ow hw 74) Via.refl e24 F26 F25 (Or.inl (ow hw 75)) (ow hw 59) (ty := .byte) (v' := (.int (nar .byte (1 : Int32)))) (by decide) rfl (fits_nar_byte _) (g := (mkF m 38 #[vR ra0, vR o6] [.int 1, .ref ra0])) rfl rfl (hb hby d56_38)
  rw [show nar .byte (1 : Int32) = (1 : Int32) from rfl] at W27
  have Fw27 := F26.same W27
  have N27 := Fr.snoc X27 N24 J'
  refine og T27 (mkF m 41 #[vR ra0, vR o6] []) st27 ?_
  have F28 := (((F15.keep K20 (ninS (own_ne_lo A'.lt f8) nin0)).other W24 (Or.inr (slot_ne (Or.inl (ow hw 97)) (Or.inl (ow hw 73)) (by decide) (t := .int) (t' := (.array .byte)) (by decide) (by decide)))).other W27 (Or.inr (slot_ne (Or.inl (ow hw 97)) (Or.inl (ow hw 75)) (by decide) (t := .int) (t' := .byte) (by decide) (by decide))))
  have F29 := ((((D'.keep K5 nin0).keep K20 (ninS (own_ne_lo A'.lt f8) nin0)).other W24 (Or.inr (slot_ne (Or.inl (ow hw 368)) (Or.inl (ow hw 73)) (by decide) (t := .boolean) (t' := (.array .byte)) (by decide) (by decide)))).other W27 (Or.inr (slot_ne (Or.inl (ow hw 368)) (Or.inl (ow hw 75)) (by decide) (t := .boolean) (t' := .byte) (by decide) (by decide))))
  have F30 := (Fw24.other W27 (Or.inr (slot_ne (Or.inl (ow hw 73)) (Or.inl (ow hw 75)) (by decide) (t := (.array .byte)) (t' := .byte) (by decide) (by decide))))
  have F31 := (((f9.keep K20).wr W24).wr W27)
  have F32 := ((f21.other W24 (Ne.symm (own_ne_lo A'.lt f8))).other W27 (Ne.symm (own_ne_lo A'.lt f8)))
  have K33 := (((((Keep.refl h0 [ra0]).trans K5 all0).trans K20 (allS (Or.inr z12) all0)).wr W24 (Or.inl (List.mem_of_getElem? (i := 0) rfl))).wr W27 (Or.inl (List.mem_of_getElem? (i := 0) rfl)))
  have KEEP := K33
  exact own_leaveN X27 hlk (v := none) (fun _ => rfl) (lb rfl) (lb rfl) (by rw [e27]; exact ⟨o6, kc7, rfl, N27, KEEP, z12, Fw27, F28, F29, F30, F31, F32⟩) (fun fs hr => X27.returnOut hx hret (hb hby d56_41) hr)
 ·
  exfalso
  obtain ⟨hd0, -⟩ := hQ1
  exact absurd hd0 (fun q => q (by decide : (0 : Int32) = (0 : Int32)))
abbrev R17_23 : Room := { frames := 6, cells := 1, slots := 400, locals := 89 }
def Q17_23 (Z : State) (ra0 : Addr) (cn0 : Int32) (ra1 : Addr) (kc2 : ClassId) (cs3 : List Int32) (nl3 : Nat) (cn2 : Int32) (ra4 ra5 : Addr) (kc6 : ClassId) (cs7 : List Int32) (nl7 : Nat) (cn4 G1 : Int32) (G3 : Value) (h0 : Heap) (n0 : Nat) (v : Option Value) (h : Heap) (L : List Loc) : Prop := (∃ (o5 : Addr) (kc6 : ClassId), v = none ∧ Fr n0 L ∧ Keep h0 h [ra0] ∧ h0.size ≤ o5 ∧ Fld Z h ra0 cN0 "coder" "B" (.int 1) ∧ Fld Z h ra0 cN0 "count" "I" (.int cn0) ∧ Fld Z h ra0 cN0 "maybeLatin1" "Z" (.int 0) ∧ Fld Z h ra0 cN0 "value" "[B" (.ref o5) ∧ Exa Z h o5 "[B" ∧ Arv Z h o5 kc6 .byte (cn2 <<< ((1 : Int32) &&& 31)) (own_by (own_u cs3)) (.int 0))
theorem rm17_23 l Z a0 (hw : HW Z a0) ra0 (cn0 : Int32) ra1 kc2 (cs3 : List Int32) nl3 (cn2 : Int32) ra4 ra5 kc6 (cs7 : List Int32) nl7 (cn4 : Int32) (G1 : Int32) (G3 : Value) h0 n0 (OLD : Old Z n0 h0) (A' : Exa Z h0 ra0 cN6) (B' : Fld Z h0 ra0 cN0 "coder" "B" (.int 0)) (C' : Fld Z h0 ra0 cN0 "count" "I" (.int cn0)) (D' : Fld Z h0 ra0 cN0 "maybeLatin1" "Z" (.int 0)) (E' : Fld Z h0 ra0 cN0 "value" "[B" (.ref ra1)) (F' : Exa Z h0 ra1 "[B") (G' : cs3.length = nl3) (H' : own_L cs3) (I' : Arv Z h0 ra1 kc2 .byte cn2 (own_by cs3) (.int 0)) (J' : Exa Z h0 ra4 cN1) (K' : Fld Z h0 ra4 cN1 "coder" "B" (.int 1)) (L' : Fld Z h0 ra4 cN1 "value" "[B" (.ref ra5)) (M' : cs7.length = nl7) (N' : Arv Z h0 ra5 kc6 .byte cn4 (own_by cs7) (.int 0)) (O2 : Sta Z Z.heap cN1 "COMPACT_STRINGS" "Z" (.int G1)) (P5 : ¬ (G1 = (0 : Int32))) (hn16 : ¬ (cn2 < (0 : Int32))) (hn17 : cn2 < (1073741823 : Int32)) (hn18 : ¬ ((cn2 <<< ((1 : Int32) &&& 31)) < (0 : Int32))) (hn19 : (cn2 <<< ((1 : Int32) &&& 31)).toNatClampNeg ≤ 400) (O4 : Sta Z Z.heap cN5 "SIOOBE_FORMATTER" "Ljava/util/function/BiFunction;" G3) (hn21 : ¬ (((((cn2 <<< ((1 : Int32) &&& 31)) >>> ((1 : Int32) &&& 31)) ||| (0 : Int32)) ||| cn0) < (0 : Int32))) (hn22 : ¬ ((((cn2 <<< ((1 : Int32) &&& 31)) >>> ((1 : Int32) &&& 31)) - (0 : Int32)) < cn0)) (rG3 : G3.isRef = true) (hn24 : cn0.toNatClampNeg = nl3) (hn25 : 2 * ((0 : Int32).toNatClampNeg + cn0.toNatClampNeg) ≤ (cn2 <<< ((1 : Int32) &&& 31)).toNatClampNeg) (hn26 : cn0.toNatClampNeg ≤ cn2.toNatClampNeg) (hn27 : ¬ (cn0 < (0 : Int32))) (Sas : Sta Z Z.heap cN2 "$assertionsDisabled" "Z" (.int 1)) (SHI : Sta Z Z.heap cN2 "HI_BYTE_SHIFT" "I" (.int 0)) (SLO : Sta Z Z.heap cN2 "LO_BYTE_SHIFT" "I" (.int 8)) (P' : n0 ≤ ra0) :
  own_CN l Z y13 jdk_68_method_71_code 2 none [] R17_23 #[.ref ra0, .ref ra4] h0 (Q17_23 Z ra0 cn0 ra1 kc2 cs3 nl3 cn2 ra4 ra5 kc6 cs7 nl7 cn4 G1 G3 h0 n0) := by
 refine own_entryN (plainFor_of_name pn_5) fun p e s m below meth c s₁ hx hby hml hown hnm hret hlk hZ hh X0 e0 => ?_
 have N0 := Fr.nil n0
 rw [ef_17_21 m ra0 ra4]
 obtain ⟨T1, X1, e1, st1⟩ := getS2 X0 hx hZ hown (host := "") (Or.inl (ow hw 71)) Via.refl e0 (O2.ext OLD.2) (g := (mkF m 0 #[vR ra0, vR ra4] [])) rfl (hb hby d17_0)
 refine og T1 (mkF m 7 #[vR ra0, vR ra4] [.ref ra0]) (fun _ k => st1 _ (XS.ifNo X1.here hx rfl (hb hby d17_3) rfl ((if0 _ _).trans (feq P5).1) (qa X1 hx hby d17_6 rfl rfl rfl k))) ?_
 obtain ⟨T2, X2, e2, st2⟩ := qf X1 hx hZ hown (ow hw 74) e1 B' (g := (mkF m 7 #[vR ra0, vR ra4] [.ref ra0])) rfl rfl hby d17_7
 refine og T2 (mkF m 11 #[vR ra0, vR ra4] [.ref ra4, .int 0]) (fun _ k => st2 _ (qa X2 hx hby d17_10 rfl rfl rfl k)) ?_
 obtain ⟨_, T3, L3, X3, hQ3, st3⟩ := own_vc X2 hx hZ hown (ow hw 113) (ow hw 92) (ow hw 94) (ow hw 93) J' (rm14_18 l Z a0 hw ra4 G1 ((1 : Int32)) h0 n0 OLD O2 P5 K') (ow hw 95) (ow hw 5) e2 (g := (mkF m 11 #[vR ra0, vR ra4] [.ref ra4, .int 0])) rfl (zs hml) (argsL := []) (rest := [.int 0]) (lenOf pd_8 rfl) rfl (hb hby d17_11) (W := 1) rfl
 obtain ⟨rfl, Nq3, eq3⟩ := hQ3
 have N3 := Fr.app N0 Nq3
 refine og T3 (mkF m 18 #[vR ra0, vR ra4] [.ref ra0]) (fun _ k => st3.trans (qn X3 hx hby d17_14 rfl rfl (feq (by decide : ¬ ((0 : Int32) = (1 : Int32)))).1 (qa X3 hx hby d17_17 rfl rfl rfl k))) ?_
 obtain ⟨_, T4, L4, X4, hQ4, st4⟩ := own_pc X3 hx hZ hown (ow hw 334) (ow hw 337) (ow hw 335) (ow hw 336) A' (rm56_24 l Z a0 hw ra0 cn0 ra1 kc2 cs3 nl3 cn2 G1 G3 h0 n0 OLD A' B' C' D' E' F' G' H' I' O2 P5 hn16 hn17 hn18 hn19 O4 hn21 hn22 rG3 hn24 hn25 hn26 hn27 Sas SHI SLO P') (ow hw 338) (ow hw 68) eq3 (g := (mkF m 18 #[vR ra0, vR ra4] [.ref ra0])) rfl (zs hml) (argsL := []) (rest := []) (lenOf pd_5 rfl) rfl (hb hby d17_18) (W := 0) rfl
 obtain ⟨o5, kc6, rfl, Nq4, K4, f7, f8, f9, f10, f11, f12, f13⟩ := hQ4
 have N4 := Fr.app N3 Nq4
 have g14 : n0 ≤ o5 := Nat.le_trans (own_osz OLD) f7
 have z15 : h0.size ≤ o5 := Nat.le_trans (Nat.le_refl _) f7
 refine ot T4 (mkF m 21 #[vR ra0, vR ra4] []) st4 ?_
 have KEEP := ((Keep.refl h0 [ra0]).trans K4 (allS (Or.inl (List.mem_of_getElem? (i := 0) rfl)) all0))
 exact own_leaveN X4 hlk (v := none) (fun _ => rfl) (lb rfl) (lb rfl) (by exact ⟨o5, kc6, rfl, N4, KEEP, z15, f8, f9, f10, f11, f12, f13⟩) (fun fs hr => X4.returnOut hx hret (hb hby d17_21) hr)
abbrev R18_34 : Room := { frames := 1, cells := 0, slots := 0, locals := 18 }
def Q18_34 (Z : State) (ra0 ra1 : Addr) (kc2 : ClassId) (cs3 : List Int32) (nl3 : Nat) (cn1 : Int32) (ra4 : Addr) (kc5 : ClassId) (cs6 : List Int32) (nl6 : Nat) (cn3 cn4 G1 : Int32) (h0 : Heap) (n0 : Nat) (v : Option Value) (h : Heap) (L : List Loc) : Prop := (v = none ∧ Fr n0 L ∧ Keep h0 h [ra4] ∧ Arv Z h ra4 kc5 .byte cn3 (own_by (cs6 ++ cs3)) (.int 0))
theorem rm18_34 l Z a0 (hw : HW Z a0) ra0 ra1 kc2 (cs3 : List Int32) nl3 (cn1 : Int32) ra4 kc5 (cs6 : List Int32) nl6 (cn3 : Int32) (cn4 : Int32) (G1 : Int32) h0 n0 (OLD : Old Z n0 h0) (A' : Exa Z h0 ra0 cN1) (B' : Fld Z h0 ra0 cN1 "coder" "B" (.int 1)) (C' : Fld Z h0 ra0 cN1 "value" "[B" (.ref ra1)) (D' : cs3.length = nl3) (E' : Arv Z h0 ra1 kc2 .byte cn1 (own_by cs3) (.int 0)) (F' : Exa Z h0 ra4 "[B") (G' : cs6.length = nl6) (H' : Arv Z h0 ra4 kc5 .byte cn3 (own_by cs6) (.int 0)) (O2 : Sta Z Z.heap cN1 "COMPACT_STRINGS" "Z" (.int G1)) (P5 : ¬ (G1 = (0 : Int32))) (hn10 : ¬ ((cn4 <<< ((1 : Int32) &&& 31)) < (0 : Int32))) (hn11 : ¬ (cn1 < (0 : Int32))) (hn12 : cn1.toNatClampNeg ≤ cn1.toNatClampNeg) (hn13 : (cn4 <<< ((1 : Int32) &&& 31)).toNatClampNeg + cn1.toNatClampNeg ≤ cn3.toNatClampNeg) (hn14 : (cn4 <<< ((1 : Int32) &&& 31)).toNatClampNeg = nl6) (hn15 : nl3 ≤ cn1.toNatClampNeg) (I' : n0 ≤ ra4) :
  own_CN l Z y14 jdk_42_method_147_code 4 none [] R18_34 #[.ref ra0, .ref ra4, .int cn4, .int 1] h0 (Q18_34 Z ra0 ra1 kc2 cs3 nl3 cn1 ra4 kc5 cs6 nl6 cn3 cn4 G1 h0 n0) := by
 refine own_entryN (plainFor_of_name pn_2) fun p e s m below meth c s₁ hx hby hml hown hnm hret hlk hZ hh X0 e0 => ?_
 have N0 := Fr.nil n0
 rw [ef_18_34 m ra0 ra4 cn4]
 refine og s₁ (mkF m 1 #[vR ra0, vR ra4, vI cn4, vI 1] [.ref ra0]) (fun _ k => qa X0 hx hby d18_0 rfl rfl rfl k) ?_
 obtain ⟨_, T1, L1, X1, hQ1, st1⟩ := own_vc X0 hx hZ hown (ow hw 91) (ow hw 92) (ow hw 94) (ow hw 93) A' (rm14_18 l Z a0 hw ra0 G1 ((1 : Int32)) h0 n0 OLD O2 P5 B') (ow hw 95) (ow hw 5) e0 (g := (mkF m 1 #[vR ra0, vR ra4, vI cn4, vI 1] [.ref ra0])) rfl (zs hml) (argsL := []) (rest := []) (lenOf pd_8 rfl) rfl (hb hby d18_1) (W := 0) rfl
 obtain ⟨rfl, Nq1, eq1⟩ := hQ1
 have N1 := Fr.app N0 Nq1
 refine og T1 (mkF m 9 #[vR ra0, vR ra4, vI cn4, vI 1] [.ref ra0]) (fun _ k => st1.trans (qi X1 hx hby d18_4 rfl rfl (qn X1 hx hby d18_5 rfl rfl (tq 1) (qa X1 hx hby d18_8 rfl rfl rfl k)))) ?_
 obtain ⟨T2, X2, e2, st2⟩ := qf X1 hx hZ hown (ow hw 25) eq1 C' (g := (mkF m 9 #[vR ra0, vR ra4, vI cn4, vI 1] [.ref ra0])) rfl rfl hby d18_9
 refine og T2 (mkF m 18 #[vR ra0, vR ra4, vI cn4, vI 1] [.ref ra0, (.int (cn4 <<< ((1 : Int32) &&& 31))), .ref ra4, .int 0, .ref ra1]) (fun _ k => st2 _ (qc X2 hx hby d18_12 rfl (qa X2 hx hby d18_13 rfl rfl rfl (qi X2 hx hby d18_14 rfl rfl (qi X2 hx hby d18_15 rfl rfl (XS.ishl X2.here hx rfl (hb hby d18_16) rfl (qa X2 hx hby d18_17 rfl rfl rfl k))))))) ?_
 obtain ⟨T3, X3, e3, st3⟩ := qf X2 hx hZ hown (ow hw 25) e2 C' (g := (mkF m 18 #[vR ra0, vR ra4, vI cn4, vI 1] [.ref ra0, (.int (cn4 <<< ((1 : Int32) &&& 31))), .ref ra4, .int 0, .ref ra1])) rfl rfl hby d18_18
 refine og T3 (mkF m 21 #[vR ra0, vR ra4, vI cn4, vI 1] [.ref ra1, (.int (cn4 <<< ((1 : Int32) &&& 31))), .ref ra4, .int 0, .ref ra1]) st3 ?_
 obtain ⟨cl4, Ar4, -, Sr4, Nr4, -, -⟩ := id E'
 refine og T3 (mkF m 22 #[vR ra0, vR ra4, vI cn4, vI 1] [.int cn1, (.int (cn4 <<< ((1 : Int32) &&& 31))), .ref ra4, .int 0, .ref ra1]) (fun t k => X3.arraylength hx (by rw [e3]; exact Ar4.1) (State.isArrayOf_alike hZ.alike Ar4.2.1) (g := (mkF m 21 #[vR ra0, vR ra4, vI cn4, vI 1] [.ref ra1, (.int (cn4 <<< ((1 : Int32) &&& 31))), .ref ra4, .int 0, .ref ra1])) rfl rfl (hb hby d18_21) t (by rw [len_of Sr4 Nr4]; exact k)) ?_
 obtain ⟨T5, h5, L5, X5, e5, N5, K5, Vq5, st5⟩ := own_cpB X3 hx hZ hown (ow hw 119) (ow hw 122) (ow hw 120) (ow hw 121) e3 E' H' (sp := (0 : Int32)) (dp := (cn4 <<< ((1 : Int32) &&& 31))) (nn := cn1) rfl hn10 hn11 hn12 hn13 (Eq.trans G' (Eq.symm hn14)) (Nat.le_trans (Nat.le_of_eq D') hn15) N1 I' (g := (mkF m 22 #[vR ra0, vR ra4, vI cn4, vI 1] [.int cn1, (.int (cn4 <<< ((1 : Int32) &&& 31))), .ref ra4, .int 0, .ref ra1])) rfl (zs hml) rfl (hb hby d18_22) (lb rfl) (W := 0) (lb rfl) (lb rfl)
 have V5 : Arv Z h5 ra4 kc5 .byte cn3 (own_by (cs6 ++ cs3)) (.int 0) := Vq5
 refine og T5 (mkF m 43 #[vR ra0, vR ra4, vI cn4, vI 1] []) (fun _ k => st5 _ (XS.goto X5.here hx rfl (pc0 := 25) (pc' := 43) rfl (hb hby d18_25) (by decide) (by decide) k)) ?_
 have KEEP := ((Keep.refl h0 [ra4]).trans K5 (allS (Or.inl (List.mem_of_getElem? (i := 0) rfl)) all0))
 exact own_leaveN X5 hlk (v := none) (fun _ => rfl) (lb rfl) (lb rfl) (by rw [e5]; exact ⟨rfl, N5, KEEP, V5⟩) (fun fs hr => X5.returnOut hx hret (hb hby d18_43) hr)
abbrev R56_36 : Room := { frames := 1, cells := 0, slots := 0, locals := 12 }
def Q56_36 (Z : State) (ra0 : Addr) (cn0 : Int32) (ra1 : Addr) (kc2 : ClassId) (cs3 : List Int32) (nl3 : Nat) (cn2 G1 : Int32) (h0 : Heap) (n0 : Nat) (v : Option Value) (h : Heap) (L : List Loc) : Prop := (v = none ∧ Fr n0 L ∧ h = h0)
theorem rm56_36 l Z a0 (hw : HW Z a0) ra0 (cn0 : Int32) ra1 kc2 (cs3 : List Int32) nl3 (cn2 : Int32) (G1 : Int32) h0 n0 (OLD : Old Z n0 h0) (A' : Exa Z h0 ra0 cN6) (B' : Fld Z h0 ra0 cN0 "coder" "B" (.int 1)) (C' : Fld Z h0 ra0 cN0 "count" "I" (.int cn0)) (D' : Fld Z h0 ra0 cN0 "maybeLatin1" "Z" (.int 0)) (E' : Fld Z h0 ra0 cN0 "value" "[B" (.ref ra1)) (F' : Exa Z h0 ra1 "[B") (G' : cs3.length = nl3) (H' : Arv Z h0 ra1 kc2 .byte cn2 (own_by cs3) (.int 0)) (O2 : Sta Z Z.heap cN1 "COMPACT_STRINGS" "Z" (.int G1)) (P5 : ¬ (G1 = (0 : Int32))) :
  own_CN l Z y24 jdk_68_method_11_code 2 none [] R56_36 #[.ref ra0] h0 (Q56_36 Z ra0 cn0 ra1 kc2 cs3 nl3 cn2 G1 h0 n0) := by
 refine own_entryN (plainFor_of_name pn_5) fun p e s m below meth c s₁ hx hby hml hown hnm hret hlk hZ hh X0 e0 => ?_
 have N0 := Fr.nil n0
 rw [ef_56_24 m ra0]
 refine og s₁ (mkF m 1 #[vR ra0, vU] [.ref ra0]) (fun _ k => qa X0 hx hby d56_0 rfl rfl rfl k) ?_
 obtain ⟨_, T1, L1, X1, hQ1, st1⟩ := own_vc X0 hx hZ hown (ow hw 320) (ow hw 174) (ow hw 176) (ow hw 175) A' (rm30_25 l Z a0 hw ra0 G1 ((1 : Int32)) h0 n0 OLD O2 P5 B') (ow hw 177) (ow hw 68) e0 (g := (mkF m 1 #[vR ra0, vU] [.ref ra0])) rfl (zs hml) (argsL := []) (rest := []) (lenOf pd_12 rfl) rfl (hb hby d56_1) (W := 0) rfl
 rcases hQ1 with hQ1 | hQ1
 ·
  exfalso
  obtain ⟨hd0, -⟩ := hQ1
  exact absurd hd0 (by decide : ¬ ((1 : Int32) = (0 : Int32)))
 ·
  obtain ⟨hc2, rfl, Nq1, eq1⟩ := hQ1
  have N1 := Fr.app N0 Nq1
  refine og T1 (mkF m 7 #[vR ra0, vU] []) (fun _ k => st1.trans (XS.ifNo X1.here hx rfl (hb hby d56_4) rfl ((if0 _ _).trans (tq 0)) k)) ?_
  exact own_leaveN X1 hlk (v := none) (fun _ => rfl) (lb rfl) (lb rfl) (by rw [eq1]; exact ⟨rfl, N1, rfl⟩) (fun fs hr => X1.returnOut hx hret (hb hby d56_7) hr)
abbrev R17_35 : Room := { frames := 2, cells := 0, slots := 0, locals := 25 }
def Q17_35 (Z : State) (ra0 : Addr) (cn0 : Int32) (ra1 : Addr) (kc2 : ClassId) (cs3 : List Int32) (nl3 : Nat) (cn2 : Int32) (ra4 ra5 : Addr) (kc6 : ClassId) (cs7 : List Int32) (nl7 : Nat) (cn4 G1 : Int32) (h0 : Heap) (n0 : Nat) (v : Option Value) (h : Heap) (L : List Loc) : Prop := (v = none ∧ Fr n0 L ∧ h = h0)
theorem rm17_35 l Z a0 (hw : HW Z a0) ra0 (cn0 : Int32) ra1 kc2 (cs3 : List Int32) nl3 (cn2 : Int32) ra4 ra5 kc6 (cs7 : List Int32) nl7 (cn4 : Int32) (G1 : Int32) h0 n0 (OLD : Old Z n0 h0) (A' : Exa Z h0 ra0 cN6) (B' : Fld Z h0 ra0 cN0 "coder" "B" (.int 1)) (C' : Fld Z h0 ra0 cN0 "count" "I" (.int cn0)) (D' : Fld Z h0 ra0 cN0 "maybeLatin1" "Z" (.int 0)) (E' : Fld Z h0 ra0 cN0 "value" "[B" (.ref ra1)) (F' : Exa Z h0 ra1 "[B") (G' : cs3.length = nl3) (H' : Arv Z h0 ra1 kc2 .byte cn2 (own_by cs3) (.int 0)) (I' : Exa Z h0 ra4 cN1) (J' : Fld Z h0 ra4 cN1 "coder" "B" (.int 0)) (K' : Fld Z h0 ra4 cN1 "value" "[B" (.ref ra5)) (L' : cs7.length = nl7) (M' : own_L cs7) (N' : Arv Z h0 ra5 kc6 .byte cn4 (own_by cs7) (.int 0)) (O2 : Sta Z Z.heap cN1 "COMPACT_STRINGS" "Z" (.int G1)) (P5 : ¬ (G1 = (0 : Int32))) :
  own_CN l Z y13 jdk_68_method_71_code 2 none [] R17_35 #[.ref ra0, .ref ra4] h0 (Q17_35 Z ra0 cn0 ra1 kc2 cs3 nl3 cn2 ra4 ra5 kc6 cs7 nl7 cn4 G1 h0 n0) := by
 refine own_entryN (plainFor_of_name pn_5) fun p e s m below meth c s₁ hx hby hml hown hnm hret hlk hZ hh X0 e0 => ?_
 have N0 := Fr.nil n0
 rw [ef_17_21 m ra0 ra4]
 obtain ⟨T1, X1, e1, st1⟩ := getS2 X0 hx hZ hown (host := "") (Or.inl (ow hw 71)) Via.refl e0 (O2.ext OLD.2) (g := (mkF m 0 #[vR ra0, vR ra4] [])) rfl (hb hby d17_0)
 refine og T1 (mkF m 7 #[vR ra0, vR ra4] [.ref ra0]) (fun _ k => st1 _ (XS.ifNo X1.here hx rfl (hb hby d17_3) rfl ((if0 _ _).trans (feq P5).1) (qa X1 hx hby d17_6 rfl rfl rfl k))) ?_
 obtain ⟨T2, X2, e2, st2⟩ := qf X1 hx hZ hown (ow hw 74) e1 B' (g := (mkF m 7 #[vR ra0, vR ra4] [.ref ra0])) rfl rfl hby d17_7
 refine og T2 (mkF m 11 #[vR ra0, vR ra4] [.ref ra4, .int 1]) (fun _ k => st2 _ (qa X2 hx hby d17_10 rfl rfl rfl k)) ?_
 obtain ⟨_, T3, L3, X3, hQ3, st3⟩ := own_vc X2 hx hZ hown (ow hw 113) (ow hw 92) (ow hw 94) (ow hw 93) I' (rm14_18 l Z a0 hw ra4 G1 ((0 : Int32)) h0 n0 OLD O2 P5 J') (ow hw 95) (ow hw 5) e2 (g := (mkF m 11 #[vR ra0, vR ra4] [.ref ra4, .int 1])) rfl (zs hml) (argsL := []) (rest := [.int 1]) (lenOf pd_8 rfl) rfl (hb hby d17_11) (W := 1) rfl
 obtain ⟨rfl, Nq3, eq3⟩ := hQ3
 have N3 := Fr.app N0 Nq3
 refine og T3 (mkF m 18 #[vR ra0, vR ra4] [.ref ra0]) (fun _ k => st3.trans (qn X3 hx hby d17_14 rfl rfl (feq (by decide : ¬ ((1 : Int32) = (0 : Int32)))).1 (qa X3 hx hby d17_17 rfl rfl rfl k))) ?_
 obtain ⟨_, T4, L4, X4, hQ4, st4⟩ := own_pc X3 hx hZ hown (ow hw 334) (ow hw 337) (ow hw 335) (ow hw 336) A' (rm56_36 l Z a0 hw ra0 cn0 ra1 kc2 cs3 nl3 cn2 G1 h0 n0 OLD A' B' C' D' E' F' G' H' O2 P5) (ow hw 338) (ow hw 68) eq3 (g := (mkF m 18 #[vR ra0, vR ra4] [.ref ra0])) rfl (zs hml) (argsL := []) (rest := []) (lenOf pd_5 rfl) rfl (hb hby d17_18) (W := 0) rfl
 obtain ⟨rfl, Nq4, eq4⟩ := hQ4
 have N4 := Fr.app N3 Nq4
 refine ot T4 (mkF m 21 #[vR ra0, vR ra4] []) st4 ?_
 exact own_leaveN X4 hlk (v := none) (fun _ => rfl) (lb rfl) (lb rfl) (by rw [eq4]; exact ⟨rfl, N4, rfl⟩) (fun fs hr => X4.returnOut hx hret (hb hby d17_21) hr)
abbrev R62_41 : Room := { frames := 0, cells := 0, slots := 0, locals := 0 }
def Q62_41 (Z : State) (ra0 : Addr) (kc1 : ClassId) (cs2 : List Int32) (nl2 : Nat) (cn1 : Int32) (h0 : Heap) (n0 : Nat) (v : Option Value) (h : Heap) (L : List Loc) : Prop := (v = some (.int (cn1 >>> ((1 : Int32) &&& 31))) ∧ Fr n0 L ∧ h = h0)
theorem rm62_41 l Z a0 (hw : HW Z a0) ra0 kc1 (cs2 : List Int32) nl2 (cn1 : Int32) h0 n0 (OLD : Old Z n0 h0) (A' : Exa Z h0 ra0 "[B") (B' : cs2.length = nl2) (C' : Arv Z h0 ra0 kc1 .byte cn1 (own_by cs2) (.int 0)) :
  own_CN l Z y18 jdk_52_method_6_code 1 (some .int) [] R62_41 #[.ref ra0] h0 (Q62_41 Z ra0 kc1 cs2 nl2 cn1 h0 n0) := by
 refine own_entryN (plainFor_of_name pn_0) fun p e s m below meth c s₁ hx hby hml hown hnm hret hlk hZ hh X0 e0 => ?_
 have N0 := Fr.nil n0
 rw [ef_7_11 m ra0]
 refine og s₁ (mkF m 1 #[vR ra0] [.ref ra0]) (fun _ k => qa X0 hx hby d62_0 rfl rfl rfl k) ?_
 obtain ⟨cl1, Ar1, -, Sr1, Nr1, -, -⟩ := id C'
 refine og s₁ (mkF m 2 #[vR ra0] [.int cn1]) (fun t k => X0.arraylength hx (by rw [e0]; exact Ar1.1) (State.isArrayOf_alike hZ.alike Ar1.2.1) (g := (mkF m 1 #[vR ra0] [.ref ra0])) rfl rfl (hb hby d62_1) t (by rw [len_of Sr1 Nr1]; exact k)) ?_
 refine og s₁ (mkF m 4 #[vR ra0] [(.int (cn1 >>> ((1 : Int32) &&& 31)))]) (fun _ k => qc X0 hx hby d62_2 rfl (XS.ishr X0.here hx rfl (hb hby d62_3) rfl k)) ?_
 exact own_leaveN X0 hlk (v := some (.int (cn1 >>> ((1 : Int32) &&& 31)))) (own_nr hret) (lb rfl) (lb rfl) (by rw [e0]; exact ⟨rfl, N0, rfl⟩) (fun fs hr => retI X0 hx hret (hb hby d62_4) hr)
abbrev R61_40 : Room := { frames := 2, cells := 0, slots := 0, locals := 29 }
def Q61_40 (Z : State) (cn0 cn1 : Int32) (ra0 : Addr) (kc1 : ClassId) (cs2 : List Int32) (nl2 : Nat) (cn3 : Int32) (G3 : Value) (h0 : Heap) (n0 : Nat) (v : Option Value) (h : Heap) (L : List Loc) : Prop := (v = none ∧ Fr n0 L ∧ h = h0)
theorem rm61_40 l Z a0 (hw : HW Z a0) (cn0 : Int32) (cn1 : Int32) ra0 kc1 (cs2 : List Int32) nl2 (cn3 : Int32) (G3 : Value) h0 n0 (OLD : Old Z n0 h0) (A' : Exa Z h0 ra0 "[B") (B' : cs2.length = nl2) (C' : Arv Z h0 ra0 kc1 .byte cn3 (own_by cs2) (.int 0)) (O4 : Sta Z Z.heap cN5 "SIOOBE_FORMATTER" "Ljava/util/function/BiFunction;" G3) (hn4 : ¬ ((((cn3 >>> ((1 : Int32) &&& 31)) ||| cn0) ||| cn1) < (0 : Int32))) (hn5 : ¬ (((cn3 >>> ((1 : Int32) &&& 31)) - cn0) < cn1)) (rG3 : G3.isRef = true) :
  own_CN l Z y21 jdk_52_method_94_code 3 none [] R61_40 #[.int cn0, .int cn1, .ref ra0] h0 (Q61_40 Z cn0 cn1 ra0 kc1 cs2 nl2 cn3 G3 h0 n0) := by
 refine own_entryN (plainFor_of_name pn_0) fun p e s m below meth c s₁ hx hby hml hown hnm hret hlk hZ hh X0 e0 => ?_
 have N0 := Fr.nil n0
 rw [ef_61_30 m cn0 cn1 ra0]
 refine og s₁ (mkF m 3 #[vI cn0, vI cn1, vR ra0] [.ref ra0, .int cn1, .int cn0]) (fun _ k => qi X0 hx hby d61_0 rfl rfl (qi X0 hx hby d61_1 rfl rfl (qa X0 hx hby d61_2 rfl rfl rfl k))) ?_
 obtain ⟨_, T1, L1, X1, hQ1, st1⟩ := own_tc X0 hx hZ hown (ow hw 355) (ow hw 356) (rm62_41 l Z a0 hw ra0 kc1 cs2 nl2 cn3 h0 n0 OLD A' B' C') (ow hw 357) (ow hw 284) e0 (g := (mkF m 3 #[vI cn0, vI cn1, vR ra0] [.ref ra0, .int cn1, .int cn0])) rfl (zs hml) (argsL := [.ref ra0]) (rest := [.int cn1, .int cn0]) (lenOf pd_15 rfl) rfl (hb hby d61_3) (W := 2) rfl
 obtain ⟨rfl, Nq1, eq1⟩ := hQ1
 have N1 := Fr.app N0 Nq1
 refine ot T1 (mkF m 6 #[vI cn0, vI cn1, vR ra0] [(.int (cn3 >>> ((1 : Int32) &&& 31))), .int cn1, .int cn0]) st1 ?_
 obtain ⟨_, T2, L2, X2, hQ2, st2⟩ := own_tc X1 hx hZ hown (ow hw 358) (ow hw 359) (rm63_32 l Z a0 hw cn0 cn1 ((cn3 >>> ((1 : Int32) &&& 31))) G3 h0 n0 OLD O4 hn4 hn5 rG3) (ow hw 360) (ow hw 5) eq1 (g := (mkF m 6 #[vI cn0, vI cn1, vR ra0] [(.int (cn3 >>> ((1 : Int32) &&& 31))), .int cn1, .int cn0])) rfl (zs hml) (argsL := [.int cn0, .int cn1, (.int (cn3 >>> ((1 : Int32) &&& 31)))]) (rest := []) (lenOf pd_17 rfl) rfl (hb hby d61_6) (W := 0) rfl
 obtain ⟨rfl, Nq2, eq2⟩ := hQ2
 have N2 := Fr.app N1 Nq2
 refine og T2 (mkF m 10 #[vI cn0, vI cn1, vR ra0] []) (fun _ k => st2.trans (XS.pop X2.here hx rfl (hb hby d61_9) rfl rfl k)) ?_
 exact own_leaveN X2 hlk (v := none) (fun _ => rfl) (lb rfl) (lb rfl) (by rw [eq2]; exact ⟨rfl, N2, rfl⟩) (fun fs hr => X2.returnOut hx hret (hb hby d61_10) hr)
abbrev R60_39 : Room := { frames := 3, cells := 0, slots := 0, locals := 43 }
def Q60_39 (Z : State) (ra0 : Addr) (kc1 : ClassId) (cs2 : List Int32) (nl2 : Nat) (cn1 cn2 : Int32) (ra3 : Addr) (kc4 : ClassId) (cs5 : List Int32) (nl5 : Nat) (cn4 cn5 cn6 : Int32) (G3 : Value) (h0 : Heap) (n0 : Nat) (v : Option Value) (h : Heap) (L : List Loc) : Prop := (v = none ∧ Fr n0 L ∧ Keep h0 h [ra3] ∧ Arv Z h ra3 kc4 .byte cn4 (own_by (cs5 ++ (own_u cs2))) (.int 0))
theorem rm60_39 l Z a0 (hw : HW Z a0) ra0 kc1 (cs2 : List Int32) nl2 (cn1 : Int32) (cn2 : Int32) ra3 kc4 (cs5 : List Int32) nl5 (cn4 : Int32) (cn5 : Int32) (cn6 : Int32) (G3 : Value) h0 n0 (OLD : Old Z n0 h0) (A' : cs2.length = nl2) (B' : own_L cs2) (C' : Arv Z h0 ra0 kc1 .byte cn1 (own_by cs2) (.int 0)) (D' : Exa Z h0 ra3 "[B") (E' : cs5.length = nl5) (F' : Arv Z h0 ra3 kc4 .byte cn4 (own_by cs5) (.int 0)) (O4 : Sta Z Z.heap cN5 "SIOOBE_FORMATTER" "Ljava/util/function/BiFunction;" G3) (hn7 : ¬ ((((cn4 >>> ((1 : Int32) &&& 31)) ||| cn5) ||| cn6) < (0 : Int32))) (hn8 : ¬ (((cn4 >>> ((1 : Int32) &&& 31)) - cn5) < cn6)) (rG3 : G3.isRef = true) (hn10 : cn6.toNatClampNeg = nl2) (hn11 : 2 * cn5.toNatClampNeg = nl5) (hn12 : cn2 = (0 : Int32)) (hn13 : 2 * (cn5.toNatClampNeg + cn6.toNatClampNeg) ≤ cn4.toNatClampNeg) (hn14 : cn4.toNatClampNeg ≤ 400) (hn15 : cn6.toNatClampNeg ≤ cn1.toNatClampNeg) (hn16 : ¬ (cn5 < (0 : Int32))) (hn17 : ¬ (cn6 < (0 : Int32))) (ne_ra0_ra3 : ra0 ≠ ra3) (Sas : Sta Z Z.heap cN2 "$assertionsDisabled" "Z" (.int 1)) (SHI : Sta Z Z.heap cN2 "HI_BYTE_SHIFT" "I" (.int 0)) (G' : n0 ≤ ra3) (SLO : Sta Z Z.heap cN2 "LO_BYTE_SHIFT" "I" (.int 8)) :
  own_CN l Z y22 jdk_52_method_86_code 6 none [] R60_39 #[.ref ra0, .int cn2, .ref ra3, .int cn5, .int cn6] h0 (Q60_39 Z ra0 kc1 cs2 nl2 cn1 cn2 ra3 kc4 cs5 nl5 cn4 cn5 cn6 G3 h0 n0) := by
 refine own_entryN (plainFor_of_name pn_0) fun p e s m below meth c s₁ hx hby hml hown hnm hret hlk hZ hh X0 e0 => ?_
 have N0 := Fr.nil n0
 rw [ef_60_29 m ra0 cn2 ra3 cn5 cn6]
 refine og s₁ (mkF m 4 #[vR ra0, vI cn2, vR ra3, vI cn5, vI cn6, vU] [.ref ra3, .int cn6, .int cn5]) (fun _ k => qi X0 hx hby d60_0 rfl rfl (XS.iload X0.here hx rfl (hb hby d60_1) rfl (qa X0 hx hby d60_3 rfl rfl rfl k))) ?_
 obtain ⟨_, T1, L1, X1, hQ1, st1⟩ := own_tc X0 hx hZ hown (ow hw 352) (ow hw 353) (rm61_40 l Z a0 hw cn5 cn6 ra3 kc4 cs5 nl5 cn4 G3 h0 n0 OLD D' E' F' O4 hn7 hn8 rG3) (ow hw 354) (ow hw 284) e0 (g := (mkF m 4 #[vR ra0, vI cn2, vR ra3, vI cn5, vI cn6, vU] [.ref ra3, .int cn6, .int cn5])) rfl (zs hml) (argsL := [.int cn5, .int cn6, .ref ra3]) (rest := []) (lenOf pd_18 rfl) rfl (hb hby d60_4) (W := 0) rfl
 obtain ⟨rfl, Nq1, eq1⟩ := hQ1
 have N1 := Fr.app N0 Nq1
 refine og T1 (mkF m 10 #[vR ra0, vI cn2, vR ra3, vI cn5, vI cn6, vI 0] []) (fun _ k => st1.trans (qc X1 hx hby d60_7 rfl (XS.istore X1.here hx rfl (hb hby d60_8) rfl (l' := #[vR ra0, vI cn2, vR ra3, vI cn5, vI cn6, vI 0]) rfl k))) ?_
 have hcn : cs2.length = cn6.toNatClampNeg := Eq.trans A' (Eq.symm hn10)
 have hdn : cs5.length = 2 * cn5.toNatClampNeg := Eq.trans E' (Eq.symm hn11)
 have hso : cn2 = (0 : Int32) := hn12
 have hzz : own_lpz cn5 cn6 cn1 cn4 := ⟨hn13, hn14, hn15, hn16, hn17⟩
 have J2 : ∀ (q2 q1 : List Int32), cs2 = q1 ++ q2 → ∀ (ii sj dj : Int32), ii = Int32.ofNat q1.length → sj = Int32.ofNat q1.length → dj = Int32.ofNat (cn5.toNatClampNeg + q1.length) → ∀ (Tq : State) (Lq : List Loc) (hq' : Heap), own_at2 X1 Tq Lq 0 0 → Tq.heap = hq' → Fr n0 Lq → Keep h0 hq' [ra3] → Arv Z hq' ra3 kc4 .byte cn4 (own_by (cs5 ++ own_u q1)) (.int 0) → own_Fin p.tables e below (own_PN s (Q60_39 Z ra0 kc1 cs2 nl2 cn1 cn2 ra3 kc4 cs5 nl5 cn4 cn5 cn6 G3 h0 n0) R60_39.cells R60_39.slots) Tq (mkF m 10 #[vR ra0, vI sj, vR ra3, vI dj, vI cn6, vI ii] []) := by
  intro q2
  induction q2 with
  | nil =>
   intro q1 hq ii sj dj hii hsj hdj Tq Lq hq' Xq eq Nq Kq Vq
   unfold own_at2 at Xq
   rw [List.append_nil] at hq
   subst hq
   refine og Tq (mkF m 41 #[vR ra0, vI sj, vR ra3, vI dj, vI cn6, vI ii] []) (fun _ k => XS.iload Xq.here hx rfl (hb hby d60_10) rfl (XS.iload Xq.here hx rfl (hb hby d60_12) rfl (XS.icmpYes Xq.here hx rfl (pc0 := 14) (pc' := 41) rfl (hb hby d60_14) rfl (flt (own_lpE hii hcn hzz)).2.1 (by decide) (by decide) k))) ?_
   have KEEP := ((Keep.refl h0 [ra3]).trans Kq (allS (Or.inl (List.mem_of_getElem? (i := 0) rfl)) all0))
   exact own_leaveN Xq hlk (v := none) (fun _ => rfl) (lb rfl) (lb rfl) (by rw [eq]; exact ⟨rfl, Nq, KEEP, Vq⟩) (fun fs hr => Xq.returnOut hx hret (hb hby d60_41) hr)
  | cons cq q2 ih =>
   intro q1 hq ii sj dj hii hsj hdj Tq Lq hq' Xq eq Nq Kq Vq
   unfold own_at2 at Xq
   refine og Tq (mkF m 27 #[vR ra0, vI (sj + (1 : Int32)), vR ra3, vI (dj + (1 : Int32)), vI cn6, vI ii] [.int sj, .ref ra0, .int dj, .ref ra3]) (fun _ k => XS.iload Xq.here hx rfl (hb hby d60_10) rfl (XS.iload Xq.here hx rfl (hb hby d60_12) rfl (qn Xq hx hby d60_14 rfl rfl (tlt (own_lpT hii hcn hzz hq)).2.1 (qa Xq hx hby d60_17 rfl rfl rfl (qi Xq hx hby d60_18 rfl rfl (XS.iinc Xq.here hx rfl (hb hby d60_19) rfl (l' := #[vR ra0, vI sj, vR ra3, vI (dj + (1 : Int32)), vI cn6, vI ii]) rfl (qa Xq hx hby d60_22 rfl rfl rfl (qi Xq hx hby d60_23 rfl rfl (XS.iinc Xq.here hx rfl (hb hby d60_24) rfl (l' := #[vR ra0, vI (sj + (1 : Int32)), vR ra3, vI (dj + (1 : Int32)), vI cn6, vI ii]) rfl k))))))))) ?_
   have F3 := (C'.keep Kq (ninS ne_ra0_ra3 nin0))
   obtain ⟨cl4, Ar4, qr4, Sr4, Nr4, Hr4, Gr4⟩ := id F3
   have hi4 : ¬ (sj < 0 ∨ cl4.slots.size ≤ (sj).toNatClampNeg) := inb_of Sr4 (own_lpB hsj hcn hzz hq)
   refine og Tq (mkF m 28 #[vR ra0, vI (sj + (1 : Int32)), vR ra3, vI (dj + (1 : Int32)), vI cn6, vI ii] [(.int (cq.toInt8.toInt32)), .int dj, .ref ra3]) (fun t k => Xq.baloadBytes hx (j := sj) (v := (.int (cq.toInt8.toInt32))) (by rw [eq]; exact Ar4.1) (State.isArrayOf_alike hZ.alike Ar4.2.1) Ar4.2.2 hi4 (Has.at Hr4 hi4 (own_lpV hsj hcn hzz hq)) (g := (mkF m 27 #[vR ra0, vI (sj + (1 : Int32)), vR ra3, vI (dj + (1 : Int32)), vI cn6, vI ii] [.int sj, .ref ra0, .int dj, .ref ra3])) rfl rfl (hb hby d60_27) t k) ?_
   refine og Tq (mkF m 32 #[vR ra0, vI (sj + (1 : Int32)), vR ra3, vI (dj + (1 : Int32)), vI cn6, vI ii] [(.int ((cq.toInt8.toInt32) &&& (255 : Int32))), .int dj, .ref ra3]) (fun _ k => XS.sipush Xq.here hx rfl (hb hby d60_28) (XS.iand Xq.here hx rfl (hb hby d60_31) rfl k)) ?_
   rw [own_m8 (B' cq (by rw [hq]; simp))]
   have F5 := (OLD.keep Kq (allS G' all0))
   obtain ⟨_, T6, L6, X6, hQ6, st6⟩ := own_tc Xq hx hZ hown (ow hw 328) (ow hw 329) (rm55_1 l Z a0 hw ra3 kc4 cn4 ((cs5 ++ own_u q1)) dj cq ((2 * (cn5.toNatClampNeg + q1.length))) hq' n0 F5 Vq (own_pl hdn) Sas SHI (own_pcs hdj hcn hzz hq).1 (own_pcs hdj hcn hzz hq).2.1 (own_pcs hdj hcn hzz hq).2.2.1 G' SLO (own_pcs hdj hcn hzz hq).2.2.2.1 (own_pcs hdj hcn hzz hq).2.2.2.2.1 (own_pcs hdj hcn hzz hq).2.2.2.2.2) (ow hw 330) (ow hw 284) eq (g := (mkF m 32 #[vR ra0, vI (sj + (1 : Int32)), vR ra3, vI (dj + (1 : Int32)), vI cn6, vI ii] [.int cq, .int dj, .ref ra3])) rfl (zs hml) (argsL := [.ref ra3, .int dj, .int cq]) (rest := []) (lenOf pd_1 rfl) rfl (hb hby d60_32) (W := 0) rfl
   obtain ⟨rfl, Nq6, K6, f7⟩ := hQ6
   have N6 := Fr.app Nq Nq6
   refine og T6 (mkF m 10 #[vR ra0, vI (sj + (1 : Int32)), vR ra3, vI (dj + (1 : Int32)), vI cn6, vI (ii + (1 : Int32))] []) (fun _ k => st6.trans (XS.iinc X6.here hx rfl (hb hby d60_35) rfl (l' := #[vR ra0, vI (sj + (1 : Int32)), vR ra3, vI (dj + (1 : Int32)), vI cn6, vI (ii + (1 : Int32))]) rfl (XS.goto X6.here hx rfl (pc0 := 38) (pc' := 10) rfl (hb hby d60_38) (by decide) (by decide) k))) ?_
   exact ih (q1 ++ [cq]) (by rw [hq, List.append_assoc]; rfl) _ _ _ (own_inc1 hii) (own_inc1 hsj) (own_inc2 hdj) _ _ _ (own_wk X6 (lb rfl) (lb rfl)) rfl N6 (Kq.trans K6 (allS (Or.inl (List.mem_of_getElem? (i := 0) rfl)) all0)) (own_uc f7)
 exact J2 cs2 [] rfl _ _ _ rfl (by rw [hso]; rfl) (own_d0 hzz) _ _ _ X1 eq1 N1 (Keep.refl _ _) (by rw [show own_u [] = [] from rfl, List.append_nil]; exact F')
abbrev R59_38 : Room := { frames := 4, cells := 0, slots := 0, locals := 60 }
def Q59_38 (Z : State) (ra0 : Addr) (kc1 : ClassId) (cs2 : List Int32) (nl2 : Nat) (cn1 cn2 : Int32) (ra3 : Addr) (kc4 : ClassId) (cs5 : List Int32) (nl5 : Nat) (cn4 cn5 cn6 : Int32) (G3 : Value) (h0 : Heap) (n0 : Nat) (v : Option Value) (h : Heap) (L : List Loc) : Prop := (v = none ∧ Fr n0 L ∧ Keep h0 h [ra3] ∧ Arv Z h ra3 kc4 .byte cn4 (own_by (cs5 ++ (own_u cs2))) (.int 0))
theorem rm59_38 l Z a0 (hw : HW Z a0) ra0 kc1 (cs2 : List Int32) nl2 (cn1 : Int32) (cn2 : Int32) ra3 kc4 (cs5 : List Int32) nl5 (cn4 : Int32) (cn5 : Int32) (cn6 : Int32) (G3 : Value) h0 n0 (OLD : Old Z n0 h0) (A' : cs2.length = nl2) (B' : own_L cs2) (C' : Arv Z h0 ra0 kc1 .byte cn1 (own_by cs2) (.int 0)) (D' : Exa Z h0 ra3 "[B") (E' : cs5.length = nl5) (F' : Arv Z h0 ra3 kc4 .byte cn4 (own_by cs5) (.int 0)) (O4 : Sta Z Z.heap cN5 "SIOOBE_FORMATTER" "Ljava/util/function/BiFunction;" G3) (hn7 : ¬ ((((cn4 >>> ((1 : Int32) &&& 31)) ||| cn5) ||| cn6) < (0 : Int32))) (hn8 : ¬ (((cn4 >>> ((1 : Int32) &&& 31)) - cn5) < cn6)) (rG3 : G3.isRef = true) (hn10 : cn6.toNatClampNeg = nl2) (hn11 : 2 * cn5.toNatClampNeg = nl5) (hn12 : cn2 = (0 : Int32)) (hn13 : 2 * (cn5.toNatClampNeg + cn6.toNatClampNeg) ≤ cn4.toNatClampNeg) (hn14 : cn4.toNatClampNeg ≤ 400) (hn15 : cn6.toNatClampNeg ≤ cn1.toNatClampNeg) (hn16 : ¬ (cn5 < (0 : Int32))) (hn17 : ¬ (cn6 < (0 : Int32))) (ne_ra0_ra3 : ra0 ≠ ra3) (Sas : Sta Z Z.heap cN2 "$assertionsDisabled" "Z" (.int 1)) (SHI : Sta Z Z.heap cN2 "HI_BYTE_SHIFT" "I" (.int 0)) (G' : n0 ≤ ra3) (SLO : Sta Z Z.heap cN2 "LO_BYTE_SHIFT" "I" (.int 8)) :
  own_CN l Z y23 jdk_43_method_50_code 5 none [] R59_38 #[.ref ra0, .int cn2, .ref ra3, .int cn5, .int cn6] h0 (Q59_38 Z ra0 kc1 cs2 nl2 cn1 cn2 ra3 kc4 cs5 nl5 cn4 cn5 cn6 G3 h0 n0) := by
 refine own_entryN (plainFor_of_name pn_1) fun p e s m below meth c s₁ hx hby hml hown hnm hret hlk hZ hh X0 e0 => ?_
 have N0 := Fr.nil n0
 rw [ef_59_28 m ra0 cn2 ra3 cn5 cn6]
 refine og s₁ (mkF m 6 #[vR ra0, vI cn2, vR ra3, vI cn5, vI cn6] [.int cn6, .int cn5, .ref ra3, .int cn2, .ref ra0]) (fun _ k => qa X0 hx hby d59_0 rfl rfl rfl (qi X0 hx hby d59_1 rfl rfl (qa X0 hx hby d59_2 rfl rfl rfl (qi X0 hx hby d59_3 rfl rfl (XS.iload X0.here hx rfl (hb hby d59_4) rfl k))))) ?_
 obtain ⟨_, T1, L1, X1, hQ1, st1⟩ := own_tc X0 hx hZ hown (ow hw 349) (ow hw 350) (rm60_39 l Z a0 hw ra0 kc1 cs2 nl2 cn1 cn2 ra3 kc4 cs5 nl5 cn4 cn5 cn6 G3 h0 n0 OLD A' B' C' D' E' F' O4 hn7 hn8 rG3 hn10 hn11 hn12 hn13 hn14 hn15 hn16 hn17 ne_ra0_ra3 Sas SHI G' SLO) (ow hw 351) (ow hw 284) e0 (g := (mkF m 6 #[vR ra0, vI cn2, vR ra3, vI cn5, vI cn6] [.int cn6, .int cn5, .ref ra3, .int cn2, .ref ra0])) rfl (zs hml) (argsL := [.ref ra0, .int cn2, .ref ra3, .int cn5, .int cn6]) (rest := []) (lenOf pd_19 rfl) rfl (hb hby d59_6) (W := 0) rfl
 obtain ⟨rfl, Nq1, K1, f2⟩ := hQ1
 have N1 := Fr.app N0 Nq1
 refine ot T1 (mkF m 9 #[vR ra0, vI cn2, vR ra3, vI cn5, vI cn6] []) st1 ?_
 have KEEP := ((Keep.refl h0 [ra3]).trans K1 (allS (Or.inl (List.mem_of_getElem? (i := 0) rfl)) all0))
 exact own_leaveN X1 hlk (v := none) (fun _ => rfl) (lb rfl) (lb rfl) (by exact ⟨rfl, N1, KEEP, f2⟩) (fun fs hr => X1.returnOut hx hret (hb hby d59_9) hr)
abbrev R18_37 : Room := { frames := 5, cells := 0, slots := 0, locals := 76 }
def Q18_37 (Z : State) (ra0 ra1 : Addr) (kc2 : ClassId) (cs3 : List Int32) (nl3 : Nat) (cn1 : Int32) (ra4 : Addr) (kc5 : ClassId) (cs6 : List Int32) (nl6 : Nat) (cn3 cn4 G1 : Int32) (G3 : Value) (h0 : Heap) (n0 : Nat) (v : Option Value) (h : Heap) (L : List Loc) : Prop := (v = none ∧ Fr n0 L ∧ Keep h0 h [ra4] ∧ Arv Z h ra4 kc5 .byte cn3 (own_by (cs6 ++ (own_u cs3))) (.int 0))
theorem rm18_37 l Z a0 (hw : HW Z a0) ra0 ra1 kc2 (cs3 : List Int32) nl3 (cn1 : Int32) ra4 kc5 (cs6 : List Int32) nl6 (cn3 : Int32) (cn4 : Int32) (G1 : Int32) (G3 : Value) h0 n0 (OLD : Old Z n0 h0) (A' : Exa Z h0 ra0 cN1) (B' : Fld Z h0 ra0 cN1 "coder" "B" (.int 0)) (C' : Fld Z h0 ra0 cN1 "value" "[B" (.ref ra1)) (D' : cs3.length = nl3) (E' : own_L cs3) (F' : Arv Z h0 ra1 kc2 .byte cn1 (own_by cs3) (.int 0)) (G' : Exa Z h0 ra4 "[B") (H' : cs6.length = nl6) (I' : Arv Z h0 ra4 kc5 .byte cn3 (own_by cs6) (.int 0)) (O2 : Sta Z Z.heap cN1 "COMPACT_STRINGS" "Z" (.int G1)) (P5 : ¬ (G1 = (0 : Int32))) (O4 : Sta Z Z.heap cN5 "SIOOBE_FORMATTER" "Ljava/util/function/BiFunction;" G3) (hn12 : ¬ ((((cn3 >>> ((1 : Int32) &&& 31)) ||| cn4) ||| cn1) < (0 : Int32))) (hn13 : ¬ (((cn3 >>> ((1 : Int32) &&& 31)) - cn4) < cn1)) (rG3 : G3.isRef = true) (hn15 : cn1.toNatClampNeg = nl3) (hn16 : 2 * cn4.toNatClampNeg = nl6) (hn17 : 2 * (cn4.toNatClampNeg + cn1.toNatClampNeg) ≤ cn3.toNatClampNeg) (hn18 : cn3.toNatClampNeg ≤ 400) (hn19 : cn1.toNatClampNeg ≤ cn1.toNatClampNeg) (hn20 : ¬ (cn4 < (0 : Int32))) (hn21 : ¬ (cn1 < (0 : Int32))) (ne_ra1_ra4 : ra1 ≠ ra4) (Sas : Sta Z Z.heap cN2 "$assertionsDisabled" "Z" (.int 1)) (SHI : Sta Z Z.heap cN2 "HI_BYTE_SHIFT" "I" (.int 0)) (J' : n0 ≤ ra4) (SLO : Sta Z Z.heap cN2 "LO_BYTE_SHIFT" "I" (.int 8)) :
  own_CN l Z y14 jdk_42_method_147_code 4 none [] R18_37 #[.ref ra0, .ref ra4, .int cn4, .int 1] h0 (Q18_37 Z ra0 ra1 kc2 cs3 nl3 cn1 ra4 kc5 cs6 nl6 cn3 cn4 G1 G3 h0 n0) := by
 refine own_entryN (plainFor_of_name pn_2) fun p e s m below meth c s₁ hx hby hml hown hnm hret hlk hZ hh X0 e0 => ?_
 have N0 := Fr.nil n0
 rw [ef_18_34 m ra0 ra4 cn4]
 refine og s₁ (mkF m 1 #[vR ra0, vR ra4, vI cn4, vI 1] [.ref ra0]) (fun _ k => qa X0 hx hby d18_0 rfl rfl rfl k) ?_
 obtain ⟨_, T1, L1, X1, hQ1, st1⟩ := own_vc X0 hx hZ hown (ow hw 91) (ow hw 92) (ow hw 94) (ow hw 93) A' (rm14_18 l Z a0 hw ra0 G1 ((0 : Int32)) h0 n0 OLD O2 P5 B') (ow hw 95) (ow hw 5) e0 (g := (mkF m 1 #[vR ra0, vR ra4, vI cn4, vI 1] [.ref ra0])) rfl (zs hml) (argsL := []) (rest := []) (lenOf pd_8 rfl) rfl (hb hby d18_1) (W := 0) rfl
 obtain ⟨rfl, Nq1, eq1⟩ := hQ1
 have N1 := Fr.app N0 Nq1
 refine og T1 (mkF m 29 #[vR ra0, vR ra4, vI cn4, vI 1] [.ref ra0]) (fun _ k => st1.trans (qi X1 hx hby d18_4 rfl rfl (XS.icmpYes X1.here hx rfl (pc0 := 5) (pc' := 28) rfl (hb hby d18_5) rfl (feq (by decide : ¬ ((0 : Int32) = (1 : Int32)))).2 (by decide) (by decide) (qa X1 hx hby d18_28 rfl rfl rfl k)))) ?_
 obtain ⟨T2, X2, e2, st2⟩ := qf X1 hx hZ hown (ow hw 25) eq1 C' (g := (mkF m 29 #[vR ra0, vR ra4, vI cn4, vI 1] [.ref ra0])) rfl rfl hby d18_29
 refine og T2 (mkF m 36 #[vR ra0, vR ra4, vI cn4, vI 1] [.ref ra0, .int cn4, .ref ra4, .int 0, .ref ra1]) (fun _ k => st2 _ (qc X2 hx hby d18_32 rfl (qa X2 hx hby d18_33 rfl rfl rfl (qi X2 hx hby d18_34 rfl rfl (qa X2 hx hby d18_35 rfl rfl rfl k))))) ?_
 obtain ⟨T3, X3, e3, st3⟩ := qf X2 hx hZ hown (ow hw 25) e2 C' (g := (mkF m 36 #[vR ra0, vR ra4, vI cn4, vI 1] [.ref ra0, .int cn4, .ref ra4, .int 0, .ref ra1])) rfl rfl hby d18_36
 refine og T3 (mkF m 39 #[vR ra0, vR ra4, vI cn4, vI 1] [.ref ra1, .int cn4, .ref ra4, .int 0, .ref ra1]) st3 ?_
 obtain ⟨cl4, Ar4, -, Sr4, Nr4, -, -⟩ := id F'
 refine og T3 (mkF m 40 #[vR ra0, vR ra4, vI cn4, vI 1] [.int cn1, .int cn4, .ref ra4, .int 0, .ref ra1]) (fun t k => X3.arraylength hx (by rw [e3]; exact Ar4.1) (State.isArrayOf_alike hZ.alike Ar4.2.1) (g := (mkF m 39 #[vR ra0, vR ra4, vI cn4, vI 1] [.ref ra1, .int cn4, .ref ra4, .int 0, .ref ra1])) rfl rfl (hb hby d18_39) t (by rw [len_of Sr4 Nr4]; exact k)) ?_
 obtain ⟨_, T5, L5, X5, hQ5, st5⟩ := own_tc X3 hx hZ hown (ow hw 366) (ow hw 347) (rm59_38 l Z a0 hw ra1 kc2 cs3 nl3 cn1 ((0 : Int32)) ra4 kc5 cs6 nl6 cn3 cn4 cn1 G3 h0 n0 OLD D' E' F' G' H' I' O4 hn12 hn13 rG3 hn15 hn16 (by decide : (0 : Int32) = (0 : Int32)) hn17 hn18 hn19 hn20 hn21 ne_ra1_ra4 Sas SHI J' SLO) (ow hw 348) (ow hw 10) e3 (g := (mkF m 40 #[vR ra0, vR ra4, vI cn4, vI 1] [.int cn1, .int cn4, .ref ra4, .int 0, .ref ra1])) rfl (zs hml) (argsL := [.ref ra1, .int 0, .ref ra4, .int cn4, .int cn1]) (rest := []) (lenOf pd_19 rfl) rfl (hb hby d18_40) (W := 0) rfl
 obtain ⟨rfl, Nq5, K5, f6⟩ := hQ5
 have N5 := Fr.app N1 Nq5
 refine ot T5 (mkF m 43 #[vR ra0, vR ra4, vI cn4, vI 1] []) st5 ?_
 have KEEP := ((Keep.refl h0 [ra4]).trans K5 (allS (Or.inl (List.mem_of_getElem? (i := 0) rfl)) all0))
 exact own_leaveN X5 hlk (v := none) (fun _ => rfl) (lb rfl) (lb rfl) (by exact ⟨rfl, N5, KEEP, f6⟩) (fun fs hr => X5.returnOut hx hret (hb hby d18_43) hr)
abbrev R17_42 : Room := { frames := 1, cells := 0, slots := 0, locals := 13 }
def Q17_42 (Z : State) (ra0 : Addr) (cn0 : Int32) (ra1 : Addr) (kc2 : ClassId) (cs3 : List Int32) (nl3 : Nat) (cn2 : Int32) (ra4 ra5 : Addr) (kc6 : ClassId) (cs7 : List Int32) (nl7 : Nat) (cn4 G1 : Int32) (h0 : Heap) (n0 : Nat) (v : Option Value) (h : Heap) (L : List Loc) : Prop := (v = none ∧ Fr n0 L ∧ h = h0)
theorem rm17_42 l Z a0 (hw : HW Z a0) ra0 (cn0 : Int32) ra1 kc2 (cs3 : List Int32) nl3 (cn2 : Int32) ra4 ra5 kc6 (cs7 : List Int32) nl7 (cn4 : Int32) (G1 : Int32) h0 n0 (OLD : Old Z n0 h0) (A' : Exa Z h0 ra0 cN6) (B' : Fld Z h0 ra0 cN0 "coder" "B" (.int 1)) (C' : Fld Z h0 ra0 cN0 "count" "I" (.int cn0)) (D' : Fld Z h0 ra0 cN0 "maybeLatin1" "Z" (.int 0)) (E' : Fld Z h0 ra0 cN0 "value" "[B" (.ref ra1)) (F' : Exa Z h0 ra1 "[B") (G' : cs3.length = nl3) (H' : Arv Z h0 ra1 kc2 .byte cn2 (own_by cs3) (.int 0)) (I' : Exa Z h0 ra4 cN1) (J' : Fld Z h0 ra4 cN1 "coder" "B" (.int 1)) (K' : Fld Z h0 ra4 cN1 "value" "[B" (.ref ra5)) (L' : cs7.length = nl7) (M' : Arv Z h0 ra5 kc6 .byte cn4 (own_by cs7) (.int 0)) (O2 : Sta Z Z.heap cN1 "COMPACT_STRINGS" "Z" (.int G1)) (P5 : ¬ (G1 = (0 : Int32))) :
  own_CN l Z y13 jdk_68_method_71_code 2 none [] R17_42 #[.ref ra0, .ref ra4] h0 (Q17_42 Z ra0 cn0 ra1 kc2 cs3 nl3 cn2 ra4 ra5 kc6 cs7 nl7 cn4 G1 h0 n0) := by
 refine own_entryN (plainFor_of_name pn_5) fun p e s m below meth c s₁ hx hby hml hown hnm hret hlk hZ hh X0 e0 => ?_
 have N0 := Fr.nil n0
 rw [ef_17_21 m ra0 ra4]
 obtain ⟨T1, X1, e1, st1⟩ := getS2 X0 hx hZ hown (host := "") (Or.inl (ow hw 71)) Via.refl e0 (O2.ext OLD.2) (g := (mkF m 0 #[vR ra0, vR ra4] [])) rfl (hb hby d17_0)
 refine og T1 (mkF m 7 #[vR ra0, vR ra4] [.ref ra0]) (fun _ k => st1 _ (XS.ifNo X1.here hx rfl (hb hby d17_3) rfl ((if0 _ _).trans (feq P5).1) (qa X1 hx hby d17_6 rfl rfl rfl k))) ?_
 obtain ⟨T2, X2, e2, st2⟩ := qf X1 hx hZ hown (ow hw 74) e1 B' (g := (mkF m 7 #[vR ra0, vR ra4] [.ref ra0])) rfl rfl hby d17_7
 refine og T2 (mkF m 11 #[vR ra0, vR ra4] [.ref ra4, .int 1]) (fun _ k => st2 _ (qa X2 hx hby d17_10 rfl rfl rfl k)) ?_
 obtain ⟨_, T3, L3, X3, hQ3, st3⟩ := own_vc X2 hx hZ hown (ow hw 113) (ow hw 92) (ow hw 94) (ow hw 93) I' (rm14_18 l Z a0 hw ra4 G1 ((1 : Int32)) h0 n0 OLD O2 P5 J') (ow hw 95) (ow hw 5) e2 (g := (mkF m 11 #[vR ra0, vR ra4] [.ref ra4, .int 1])) rfl (zs hml) (argsL := []) (rest := [.int 1]) (lenOf pd_8 rfl) rfl (hb hby d17_11) (W := 1) rfl
 obtain ⟨rfl, Nq3, eq3⟩ := hQ3
 have N3 := Fr.app N0 Nq3
 refine og T3 (mkF m 21 #[vR ra0, vR ra4] []) (fun _ k => st3.trans (XS.icmpYes X3.here hx rfl (pc0 := 14) (pc' := 21) rfl (hb hby d17_14) rfl (teq (by decide : (1 : Int32) = (1 : Int32))).1 (by decide) (by decide) k)) ?_
 exact own_leaveN X3 hlk (v := none) (fun _ => rfl) (lb rfl) (lb rfl) (by rw [eq3]; exact ⟨rfl, N3, rfl⟩) (fun fs hr => X3.returnOut hx hret (hb hby d17_21) hr)
abbrev R16_20 : Room := { frames := 7, cells := 1, slots := 400, locals := 102 }
def Q16_20 (Z : State) (sb ta : Addr) (cs : List Int32) (cn K : Int32) (sx bx : Addr) (ds : List Int32) (cm n2 G1 : Int32) (G3 : Value) (h0 : Heap) (n0 : Nat) (v : Option Value) (h : Heap) (L : List Loc) : Prop := (∃ (eq0 : Addr), v = none ∧ Fr n0 L ∧ Keep h0 h [sb, ta] ∧ (eq0 = ta ∨ h0.size ≤ eq0) ∧ own_sb Z h sb eq0 (cs ++ ds) n2 K ∧ Fld Z h sb cN0 "count" "I" (.int cn))
abbrev C16_20 (cn : Int32) (K : Int32) (cm : Int32) (n2 : Int32) : Prop := (¬ ((cn <<< ((0 : Int32) &&& 31)) < (0 : Int32))) ∧ (¬ (cm < (0 : Int32))) ∧ (cm.toNatClampNeg ≤ cm.toNatClampNeg) ∧ ((cn <<< ((0 : Int32) &&& 31)).toNatClampNeg + cm.toNatClampNeg ≤ K.toNatClampNeg) ∧ ((cn <<< ((0 : Int32) &&& 31)).toNatClampNeg = cn.toNatClampNeg) ∧ ((cn.toNatClampNeg + cm.toNatClampNeg) = n2.toNatClampNeg) ∧ (¬ (K < (0 : Int32))) ∧ (K < (1073741823 : Int32)) ∧ (¬ ((K <<< ((1 : Int32) &&& 31)) < (0 : Int32))) ∧ ((K <<< ((1 : Int32) &&& 31)).toNatClampNeg ≤ 400) ∧ (¬ (((((K <<< ((1 : Int32) &&& 31)) >>> ((1 : Int32) &&& 31)) ||| (0 : Int32)) ||| cn) < (0 : Int32))) ∧ (¬ ((((K <<< ((1 : Int32) &&& 31)) >>> ((1 : Int32) &&& 31)) - (0 : Int32)) < cn)) ∧ (2 * ((0 : Int32).toNatClampNeg + cn.toNatClampNeg) ≤ (K <<< ((1 : Int32) &&& 31)).toNatClampNeg) ∧ (cn.toNatClampNeg ≤ K.toNatClampNeg) ∧ (¬ (cn < (0 : Int32))) ∧ (¬ ((cn <<< ((1 : Int32) &&& 31)) < (0 : Int32))) ∧ (¬ ((cm <<< ((1 : Int32) &&& 31)) < (0 : Int32))) ∧ ((cm <<< ((1 : Int32) &&& 31)).toNatClampNeg ≤ (cm <<< ((1 : Int32) &&& 31)).toNatClampNeg) ∧ ((cn <<< ((1 : Int32) &&& 31)).toNatClampNeg + (cm <<< ((1 : Int32) &&& 31)).toNatClampNeg ≤ (K <<< ((1 : Int32) &&& 31)).toNatClampNeg) ∧ ((cn <<< ((1 : Int32) &&& 31)).toNatClampNeg = (2 * cn.toNatClampNeg)) ∧ ((2 * cm.toNatClampNeg) ≤ (cm <<< ((1 : Int32) &&& 31)).toNatClampNeg) ∧ (¬ (((((K <<< ((1 : Int32) &&& 31)) >>> ((1 : Int32) &&& 31)) ||| cn) ||| cm) < (0 : Int32))) ∧ (¬ ((((K <<< ((1 : Int32) &&& 31)) >>> ((1 : Int32) &&& 31)) - cn) < cm)) ∧ (2 * cn.toNatClampNeg = (2 * cn.toNatClampNeg)) ∧ (2 * (cn.toNatClampNeg + cm.toNatClampNeg) ≤ (K <<< ((1 : Int32) &&& 31)).toNatClampNeg)
theorem rm16_20 l Z a0 (hw : HW Z a0) sb ta (cs : List Int32) (cn : Int32) (K : Int32) sx bx (ds : List Int32) (cm : Int32) (n2 : Int32) (G1 : Int32) (G3 : Value) h0 n0 (OLD : Old Z n0 h0) (S_sb : own_sb Z h0 sb ta cs cn K) (A' : Fld Z h0 sb cN0 "count" "I" (.int cn)) (S_sx : own_st Z h0 sx bx ds cm) (O2 : Sta Z Z.heap cN1 "COMPACT_STRINGS" "Z" (.int G1)) (P5 : ¬ (G1 = (0 : Int32))) (ge_ta : n0 ≤ ta) (ne_sb_ta : sb ≠ ta) (O4 : Sta Z Z.heap cN5 "SIOOBE_FORMATTER" "Ljava/util/function/BiFunction;" G3) (rG3 : G3.isRef = true) (Sas : Sta Z Z.heap cN2 "$assertionsDisabled" "Z" (.int 1)) (SHI : Sta Z Z.heap cN2 "HI_BYTE_SHIFT" "I" (.int 0)) (SLO : Sta Z Z.heap cN2 "LO_BYTE_SHIFT" "I" (.int 8)) (ge_sb : n0 ≤ sb) (ne_sx_sb : sx ≠ sb) (ne_bx_sb : bx ≠ sb) (ne_bx_ta : bx ≠ ta) (hC : C16_20 cn K cm n2) :
  own_CN l Z y25 jdk_68_method_73_code 3 none [] R16_20 #[.ref sb, .int cn, .ref sx] h0 (Q16_20 Z sb ta cs cn K sx bx ds cm n2 G1 G3 h0 n0) := by
 refine own_entryN (plainFor_of_name pn_5) fun p e s m below meth c s₁ hx hby hml hown hnm hret hlk hZ hh X0 e0 => ?_
 obtain ⟨hn5, hn6, hn7, hn8, hn9, hn11, hn13, hn14, hn15, hn16, hn18, hn19, hn21, hn22, hn23, hn30, hn31, hn32, hn33, hn34, hn35, hn36, hn37, hn38, hn39⟩ := hC
 have N0 := Fr.nil n0
 rw [ef_16_20 m sb cn sx]
 obtain ⟨kc1, ⟨Fc1, Vc1, lc1⟩ | ⟨Fc1, Vc1, lc1⟩⟩ := S_sb.2.2.2.2.2
 ·
  obtain ⟨kc2, ⟨Fc2, Vc2, lc2⟩ | ⟨Fc2, Vc2, lc2⟩⟩ := S_sx.2.2.2
  ·
   refine og s₁ (mkF m 2 #[vR sb, vI cn, vR sx] [.ref sx, .ref sb]) (fun _ k => qa X0 hx hby d16_0 rfl rfl rfl (qa X0 hx hby d16_1 rfl rfl rfl k)) ?_
   obtain ⟨_, T3, L3, X3, hQ3, st3⟩ := own_pc X0 hx hZ hown (ow hw 108) (ow hw 111) (ow hw 109) (ow hw 110) S_sb.1 (rm17_21 l Z a0 hw sb cn ta kc1 cs (cn.toNatClampNeg) K sx bx kc2 ds (cm.toNatClampNeg) cm G1 h0 n0 OLD S_sb.1 Fc1 A' S_sb.2.2.1 S_sb.2.1 S_sb.2.2.2.1 (S_sb.2.2.2.2.1) lc1 Vc1 S_sx.1 Fc2 S_sx.2.1 (S_sx.2.2.1) lc2 Vc2 O2 P5) (ow hw 112) (ow hw 68) e0 (g := (mkF m 2 #[vR sb, vI cn, vR sx] [.ref sx, .ref sb])) rfl (zs hml) (argsL := [.ref sx]) (rest := []) (lenOf pd_10 rfl) rfl (hb hby d16_2) (W := 0) rfl
   obtain ⟨rfl, Nq3, eq3⟩ := hQ3
   have N3 := Fr.app N0 Nq3
   refine og T3 (mkF m 7 #[vR sb, vI cn, vR sx] [.ref sb, .ref sx]) (fun _ k => st3.trans (qa X3 hx hby d16_5 rfl rfl rfl (qa X3 hx hby d16_6 rfl rfl rfl k))) ?_
   obtain ⟨T4, X4, e4, st4⟩ := getF X3 hx hZ hown (host := "") (Or.inl (ow hw 72)) Via.refl eq3 S_sb.2.1 (g := (mkF m 7 #[vR sb, vI cn, vR sx] [.ref sb, .ref sx])) rfl rfl (hb hby d16_7)
   refine og T4 (mkF m 12 #[vR sb, vI cn, vR sx] [.ref sb, .int cn, .ref ta, .ref sx]) (fun _ k => st4 _ (qi X4 hx hby d16_10 rfl rfl (qa X4 hx hby d16_11 rfl rfl rfl k))) ?_
   obtain ⟨T5, X5, e5, st5⟩ := qf X4 hx hZ hown (ow hw 74) e4 Fc1 (g := (mkF m 12 #[vR sb, vI cn, vR sx] [.ref sb, .int cn, .ref ta, .ref sx])) rfl rfl hby d16_12
   refine og T5 (mkF m 15 #[vR sb, vI cn, vR sx] [.int 0, .int cn, .ref ta, .ref sx]) st5 ?_
   obtain ⟨_, T6, L6, X6, hQ6, st6⟩ := own_vc X5 hx hZ hown (ow hw 114) (ow hw 115) (ow hw 117) (ow hw 116) S_sx.1 (rm18_22 l Z a0 hw sx bx kc2 ds (cm.toNatClampNeg) cm ta kc1 cs (cn.toNatClampNeg) K cn G1 h0 n0 OLD S_sx.1 Fc2 S_sx.2.1 (S_sx.2.2.1) lc2 Vc2 S_sb.2.2.2.1 (S_sb.2.2.2.2.1) lc1 Vc1 O2 P5 hn5 hn6 hn7 hn8 hn9 hn7 ge_ta) (ow hw 118) (ow hw 5) e5 (g := (mkF m 15 #[vR sb, vI cn, vR sx] [.int 0, .int cn, .ref ta, .ref sx])) rfl (zs hml) (argsL := [.ref ta, .int cn, .int 0]) (rest := []) (lenOf pd_11 rfl) rfl (hb hby d16_15) (W := 0) rfl
   obtain ⟨rfl, Nq6, K6, f7⟩ := hQ6
   have N6 := Fr.app N3 Nq6
   refine ot T6 (mkF m 18 #[vR sb, vI cn, vR sx] []) st6 ?_
   have F9 := (S_sb.1.keep K6)
   have F10 := (S_sb.2.2.1.keep K6 (ninS ne_sb_ta nin0))
   have F11 := (S_sb.2.2.2.1.keep K6)
   have F12 := (S_sb.2.1.keep K6 (ninS ne_sb_ta nin0))
   have F13 := (Fc1.keep K6 (ninS ne_sb_ta nin0))
   have S8 : own_sb Z T6.heap sb ta (cs ++ ds) n2 K := own_sbL F9 F12 F10 F11 (own_lapp (S_sb.2.2.2.2.1) (S_sx.2.2.1) hn11) F13 f7 (own_happ lc1 lc2)
   have F14 := (A'.keep K6 (ninS ne_sb_ta nin0))
   have KEEP := ((Keep.refl h0 [sb, ta]).trans K6 (allS (Or.inl (List.mem_of_getElem? (i := 1) rfl)) all0))
   exact own_leaveN X6 hlk (v := none) (fun _ => rfl) (lb rfl) (lb rfl) (by exact ⟨ta, rfl, N6, KEEP, (Or.inl rfl), S8, F14⟩) (fun fs hr => X6.returnOut hx hret (hb hby d16_18) hr)
  ·
   refine og s₁ (mkF m 2 #[vR sb, vI cn, vR sx] [.ref sx, .ref sb]) (fun _ k => qa X0 hx hby d16_0 rfl rfl rfl (qa X0 hx hby d16_1 rfl rfl rfl k)) ?_
   obtain ⟨_, T15, L15, X15, hQ15, st15⟩ := own_pc X0 hx hZ hown (ow hw 108) (ow hw 111) (ow hw 109) (ow hw 110) S_sb.1 (rm17_23 l Z a0 hw sb cn ta kc1 cs (cn.toNatClampNeg) K sx bx kc2 ((own_u ds)) ((2 * cm.toNatClampNeg)) ((cm <<< ((1 : Int32) &&& 31))) G1 G3 h0 n0 OLD S_sb.1 Fc1 A' S_sb.2.2.1 S_sb.2.1 S_sb.2.2.2.1 (S_sb.2.2.2.2.1) lc1 Vc1 S_sx.1 Fc2 S_sx.2.1 (own_ul (S_sx.2.2.1)) Vc2 O2 P5 hn13 hn14 hn15 hn16 O4 hn18 hn19 rG3 (rfl : cn.toNatClampNeg = cn.toNatClampNeg) hn21 hn22 hn23 Sas SHI SLO ge_sb) (ow hw 112) (ow hw 68) e0 (g := (mkF m 2 #[vR sb, vI cn, vR sx] [.ref sx, .ref sb])) rfl (zs hml) (argsL := [.ref sx]) (rest := []) (lenOf pd_10 rfl) rfl (hb hby d16_2) (W := 0) rfl
   obtain ⟨o16, kc17, rfl, Nq15, K15, f18, f19, f20, f21, f22, f23, f24⟩ := hQ15
   have N15 := Fr.app N0 Nq15
   have g25 : n0 ≤ o16 := Nat.le_trans (own_osz OLD) f18
   have z26 : h0.size ≤ o16 := Nat.le_trans (Nat.le_refl _) f18
   refine og T15 (mkF m 7 #[vR sb, vI cn, vR sx] [.ref sb, .ref sx]) (fun _ k => st15.trans (qa X15 hx hby d16_5 rfl rfl rfl (qa X15 hx hby d16_6 rfl rfl rfl k))) ?_
   obtain ⟨T27, X27, e27, st27⟩ := qf X15 hx hZ hown (ow hw 72) rfl f22 (g := (mkF m 7 #[vR sb, vI cn, vR sx] [.ref sb, .ref sx])) rfl rfl hby d16_7
   refine og T27 (mkF m 12 #[vR sb, vI cn, vR sx] [.ref sb, .int cn, .ref o16, .ref sx]) (fun _ k => st27 _ (qi X27 hx hby d16_10 rfl rfl (qa X27 hx hby d16_11 rfl rfl rfl k))) ?_
   obtain ⟨T28, X28, e28, st28⟩ := qf X27 hx hZ hown (ow hw 74) e27 f19 (g := (mkF m 12 #[vR sb, vI cn, vR sx] [.ref sb, .int cn, .ref o16, .ref sx])) rfl rfl hby d16_12
   refine og T28 (mkF m 15 #[vR sb, vI cn, vR sx] [.int 1, .int cn, .ref o16, .ref sx]) st28 ?_
   have F29 := (S_sx.1.keep K15)
   have F30 := (Fc2.keep K15 (ninS ne_sx_sb nin0))
   have F31 := (S_sx.2.1.keep K15 (ninS ne_sx_sb nin0))
   have F32 := (Vc2.keep K15 (ninS ne_bx_sb nin0))
   have F33 := (OLD.keep K15 (allS ge_sb all0))
   obtain ⟨_, T34, L34, X34, hQ34, st34⟩ := own_vc X28 hx hZ hown (ow hw 114) (ow hw 115) (ow hw 117) (ow hw 116) F29 (rm18_34 l Z a0 hw sx bx kc2 ((own_u ds)) ((2 * cm.toNatClampNeg)) ((cm <<< ((1 : Int32) &&& 31))) o16 kc17 ((own_u cs)) ((2 * cn.toNatClampNeg)) ((K <<< ((1 : Int32) &&& 31))) cn G1 T15.heap n0 F33 F29 F30 F31 (own_ul (S_sx.2.2.1)) F32 f23 (own_ul (S_sb.2.2.2.2.1)) f24 O2 P5 hn30 hn31 hn32 hn33 hn34 hn35 g25) (ow hw 118) (ow hw 5) e28 (g := (mkF m 15 #[vR sb, vI cn, vR sx] [.int 1, .int cn, .ref o16, .ref sx])) rfl (zs hml) (argsL := [.ref o16, .int cn, .int 1]) (rest := []) (lenOf pd_11 rfl) rfl (hb hby d16_15) (W := 0) rfl
   obtain ⟨rfl, Nq34, K34, f35⟩ := hQ34
   have N34 := Fr.app N15 Nq34
   refine ot T34 (mkF m 18 #[vR sb, vI cn, vR sx] []) st34 ?_
   have F37 := ((S_sb.1.keep K15).keep K34)
   have F38 := (f21.keep K34 (ninS (own_ne_lo S_sb.lt f18) nin0))
   have F39 := (f23.keep K34)
   have F40 := (f22.keep K34 (ninS (own_ne_lo S_sb.lt f18) nin0))
   have F41 := (f19.keep K34 (ninS (own_ne_lo S_sb.lt f18) nin0))
   have S36 : own_sb Z T34.heap sb o16 (cs ++ ds) n2 K := own_sbU F37 F40 F38 F39 (own_lapp (S_sb.2.2.2.2.1) (S_sx.2.2.1) hn11) F41 (own_uapp f35) (own_nlR lc2)
   have F42 := (f20.keep K34 (ninS (own_ne_lo S_sb.lt f18) nin0))
   have KEEP := (((Keep.refl h0 [sb, ta]).trans K15 (allS (Or.inl (List.mem_of_getElem? (i := 0) rfl)) all0)).trans K34 (allS (Or.inr z26) all0))
   exact own_leaveN X34 hlk (v := none) (fun _ => rfl) (lb rfl) (lb rfl) (by exact ⟨o16, rfl, N34, KEEP, (Or.inr z26), S36, F42⟩) (fun fs hr => X34.returnOut hx hret (hb hby d16_18) hr)
 ·
  obtain ⟨kc43, ⟨Fc43, Vc43, lc43⟩ | ⟨Fc43, Vc43, lc43⟩⟩ := S_sx.2.2.2
  ·
   refine og s₁ (mkF m 2 #[vR sb, vI cn, vR sx] [.ref sx, .ref sb]) (fun _ k => qa X0 hx hby d16_0 rfl rfl rfl (qa X0 hx hby d16_1 rfl rfl rfl k)) ?_
   obtain ⟨_, T44, L44, X44, hQ44, st44⟩ := own_pc X0 hx hZ hown (ow hw 108) (ow hw 111) (ow hw 109) (ow hw 110) S_sb.1 (rm17_35 l Z a0 hw sb cn ta kc1 ((own_u cs)) ((2 * cn.toNatClampNeg)) ((K <<< ((1 : Int32) &&& 31))) sx bx kc43 ds (cm.toNatClampNeg) cm G1 h0 n0 OLD S_sb.1 Fc1 A' S_sb.2.2.1 S_sb.2.1 S_sb.2.2.2.1 (own_ul (S_sb.2.2.2.2.1)) Vc1 S_sx.1 Fc43 S_sx.2.1 (S_sx.2.2.1) lc43 Vc43 O2 P5) (ow hw 112) (ow hw 68) e0 (g := (mkF m 2 #[vR sb, vI cn, vR sx] [.ref sx, .ref sb])) rfl (zs hml) (argsL := [.ref sx]) (rest := []) (lenOf pd_10 rfl) rfl (hb hby d16_2) (W := 0) rfl
   obtain ⟨rfl, Nq44, eq44⟩ := hQ44
   have N44 := Fr.app N0 Nq44
   refine og T44 (mkF m 7 #[vR sb, vI cn, vR sx] [.ref sb, .ref sx]) (fun _ k => st44.trans (qa X44 hx hby d16_5 rfl rfl rfl (qa X44 hx hby d16_6 rfl rfl rfl k))) ?_
   obtain ⟨T45, X45, e45, st45⟩ := getF X44 hx hZ hown (host := "") (Or.inl (ow hw 72)) Via.refl eq44 S_sb.2.1 (g := (mkF m 7 #[vR sb, vI cn, vR sx] [.ref sb, .ref sx])) rfl rfl (hb hby d16_7)
   refine og T45 (mkF m 12 #[vR sb, vI cn, vR sx] [.ref sb, .int cn, .ref ta, .ref sx]) (fun _ k => st45 _ (qi X45 hx hby d16_10 rfl rfl (qa X45 hx hby d16_11 rfl rfl rfl k))) ?_
   obtain ⟨T46, X46, e46, st46⟩ := qf X45 hx hZ hown (ow hw 74) e45 Fc1 (g := (mkF m 12 #[vR sb, vI cn, vR sx] [.ref sb, .int cn, .ref ta, .ref sx])) rfl rfl hby d16_12
   refine og T46 (mkF m 15 #[vR sb, vI cn, vR sx] [.int 1, .int cn, .ref ta, .ref sx]) st46 ?_
   obtain ⟨_, T47, L47, X47, hQ47, st47⟩ := own_vc X46 hx hZ hown (ow hw 114) (ow hw 115) (ow hw 117) (ow hw 116) S_sx.1 (rm18_37 l Z a0 hw sx bx kc43 ds (cm.toNatClampNeg) cm ta kc1 ((own_u cs)) ((2 * cn.toNatClampNeg)) ((K <<< ((1 : Int32) &&& 31))) cn G1 G3 h0 n0 OLD S_sx.1 Fc43 S_sx.2.1 (S_sx.2.2.1) lc43 Vc43 S_sb.2.2.2.1 (own_ul (S_sb.2.2.2.2.1)) Vc1 O2 P5 O4 hn36 hn37 rG3 (rfl : cm.toNatClampNeg = cm.toNatClampNeg) hn38 hn39 hn16 hn7 hn23 hn6 ne_bx_ta Sas SHI ge_ta SLO) (ow hw 118) (ow hw 5) e46 (g := (mkF m 15 #[vR sb, vI cn, vR sx] [.int 1, .int cn, .ref ta, .ref sx])) rfl (zs hml) (argsL := [.ref ta, .int cn, .int 1]) (rest := []) (lenOf pd_11 rfl) rfl (hb hby d16_15) (W := 0) rfl
   obtain ⟨rfl, Nq47, K47, f48⟩ := hQ47
   have N47 := Fr.app N44 Nq47
   refine ot T47 (mkF m 18 #[vR sb, vI cn, vR sx] []) st47 ?_
   have F50 := (S_sb.1.keep K47)
   have F51 := (S_sb.2.2.1.keep K47 (ninS ne_sb_ta nin0))
   have F52 := (S_sb.2.2.2.1.keep K47)
   have F53 := (S_sb.2.1.keep K47 (ninS ne_sb_ta nin0))
   have F54 := (Fc1.keep K47 (ninS ne_sb_ta nin0))
   have S49 : own_sb Z T47.heap sb ta (cs ++ ds) n2 K := own_sbU F50 F53 F51 F52 (own_lapp (S_sb.2.2.2.2.1) (S_sx.2.2.1) hn11) F54 (own_uapp f48) (own_nlL lc1)
   have F55 := (A'.keep K47 (ninS ne_sb_ta nin0))
   have KEEP := ((Keep.refl h0 [sb, ta]).trans K47 (allS (Or.inl (List.mem_of_getElem? (i := 1) rfl)) all0))
   exact own_leaveN X47 hlk (v := none) (fun _ => rfl) (lb rfl) (lb rfl) (by exact ⟨ta, rfl, N47, KEEP, (Or.inl rfl), S49, F55⟩) (fun fs hr => X47.returnOut hx hret (hb hby d16_18) hr)
  ·
   refine og s₁ (mkF m 2 #[vR sb, vI cn, vR sx] [.ref sx, .ref sb]) (fun _ k => qa X0 hx hby d16_0 rfl rfl rfl (qa X0 hx hby d16_1 rfl rfl rfl k)) ?_
   obtain ⟨_, T56, L56, X56, hQ56, st56⟩ := own_pc X0 hx hZ hown (ow hw 108) (ow hw 111) (ow hw 109) (ow hw 110) S_sb.1 (rm17_42 l Z a0 hw sb cn ta kc1 ((own_u cs)) ((2 * cn.toNatClampNeg)) ((K <<< ((1 : Int32) &&& 31))) sx bx kc43 ((own_u ds)) ((2 * cm.toNatClampNeg)) ((cm <<< ((1 : Int32) &&& 31))) G1 h0 n0 OLD S_sb.1 Fc1 A' S_sb.2.2.1 S_sb.2.1 S_sb.2.2.2.1 (own_ul (S_sb.2.2.2.2.1)) Vc1 S_sx.1 Fc43 S_sx.2.1 (own_ul (S_sx.2.2.1)) Vc43 O2 P5) (ow hw 112) (ow hw 68) e0 (g := (mkF m 2 #[vR sb, vI cn, vR sx] [.ref sx, .ref sb])) rfl (zs hml) (argsL := [.ref sx]) (rest := []) (lenOf pd_10 rfl) rfl (hb hby d16_2) (W := 0) rfl
   obtain ⟨rfl, Nq56, eq56⟩ := hQ56
   have N56 := Fr.app N0 Nq56
   refine og T56 (mkF m 7 #[vR sb, vI cn, vR sx] [.ref sb, .ref sx]) (fun _ k => st56.trans (qa X56 hx hby d16_5 rfl rfl rfl (qa X56 hx hby d16_6 rfl rfl rfl k))) ?_
   obtain ⟨T57, X57, e57, st57⟩ := getF X56 hx hZ hown (host := "") (Or.inl (ow hw 72)) Via.refl eq56 S_sb.2.1 (g := (mkF m 7 #[vR sb, vI cn, vR sx] [.ref sb, .ref sx])) rfl rfl (hb hby d16_7)
   refine og T57 (mkF m 12 #[vR sb, vI cn, vR sx] [.ref sb, .int cn, .ref ta, .ref sx]) (fun _ k => st57 _ (qi X57 hx hby d16_10 rfl rfl (qa X57 hx hby d16_11 rfl rfl rfl k))) ?_
   obtain ⟨T58, X58, e58, st58⟩ := qf X57 hx hZ hown (ow hw 74) e57 Fc1 (g := (mkF m 12 #[vR sb, vI cn, vR sx] [.ref sb, .int cn, .ref ta, .ref sx])) rfl rfl hby d16_12
   refine og T58 (mkF m 15 #[vR sb, vI cn, vR sx] [.int 1, .int cn, .ref ta, .ref sx]) st58 ?_
   obtain ⟨_, T59, L59, X59, hQ59, st59⟩ := own_vc X58 hx hZ hown (ow hw 114) (ow hw 115) (ow hw 117) (ow hw 116) S_sx.1 (rm18_34 l Z a0 hw sx bx kc43 ((own_u ds)) ((2 * cm.toNatClampNeg)) ((cm <<< ((1 : Int32) &&& 31))) ta kc1 ((own_u cs)) ((2 * cn.toNatClampNeg)) ((K <<< ((1 : Int32) &&& 31))) cn G1 h0 n0 OLD S_sx.1 Fc43 S_sx.2.1 (own_ul (S_sx.2.2.1)) Vc43 S_sb.2.2.2.1 (own_ul (S_sb.2.2.2.2.1)) Vc1 O2 P5 hn30 hn31 hn32 hn33 hn34 hn35 ge_ta) (ow hw 118) (ow hw 5) e58 (g := (mkF m 15 #[vR sb, vI cn, vR sx] [.int 1, .int cn, .ref ta, .ref sx])) rfl (zs hml) (argsL := [.ref ta, .int cn, .int 1]) (rest := []) (lenOf pd_11 rfl) rfl (hb hby d16_15) (W := 0) rfl
   obtain ⟨rfl, Nq59, K59, f60⟩ := hQ59
   have N59 := Fr.app N56 Nq59
   refine ot T59 (mkF m 18 #[vR sb, vI cn, vR sx] []) st59 ?_
   have F62 := (S_sb.1.keep K59)
   have F63 := (S_sb.2.2.1.keep K59 (ninS ne_sb_ta nin0))
   have F64 := (S_sb.2.2.2.1.keep K59)
   have F65 := (S_sb.2.1.keep K59 (ninS ne_sb_ta nin0))
   have F66 := (Fc1.keep K59 (ninS ne_sb_ta nin0))
   have S61 : own_sb Z T59.heap sb ta (cs ++ ds) n2 K := own_sbU F62 F65 F63 F64 (own_lapp (S_sb.2.2.2.2.1) (S_sx.2.2.1) hn11) F66 (own_uapp f60) (own_nlL lc1)
   have F67 := (A'.keep K59 (ninS ne_sb_ta nin0))
   have KEEP := ((Keep.refl h0 [sb, ta]).trans K59 (allS (Or.inl (List.mem_of_getElem? (i := 1) rfl)) all0))
   exact own_leaveN X59 hlk (v := none) (fun _ => rfl) (lb rfl) (lb rfl) (by exact ⟨ta, rfl, N59, KEEP, (Or.inl rfl), S61, F67⟩) (fun fs hr => X59.returnOut hx hret (hb hby d16_18) hr)
abbrev R12_16 : Room := { frames := 8, cells := 1, slots := 400, locals := 116 }
def Q12_16 (Z : State) (sb ta : Addr) (cs : List Int32) (cn K : Int32) (sx bx : Addr) (ds : List Int32) (cm n2 G1 : Int32) (G3 : Value) (h0 : Heap) (n0 : Nat) (v : Option Value) (h : Heap) (L : List Loc) : Prop := (∃ (eq0 : Addr), v = some (.ref sb) ∧ Fr n0 L ∧ Keep h0 h [sb, ta] ∧ (eq0 = ta ∨ h0.size ≤ eq0) ∧ own_sb Z h sb eq0 (cs ++ ds) n2 K ∧ Fld Z h sb cN0 "count" "I" (.int (cn + cm)))
abbrev C12_16 (cn : Int32) (K : Int32) (cm : Int32) (n2 : Int32) : Prop := ((cm >>> ((0 : Int32) &&& 31)) = cm) ∧ (((cm <<< ((1 : Int32) &&& 31)) >>> ((1 : Int32) &&& 31)) = cm) ∧ (¬ ((0 : Int32) < ((cn + cm) - (K >>> ((0 : Int32) &&& 31))))) ∧ (¬ ((0 : Int32) < ((cn + cm) - ((K <<< ((1 : Int32) &&& 31)) >>> ((1 : Int32) &&& 31))))) ∧ (¬ ((cn <<< ((0 : Int32) &&& 31)) < (0 : Int32))) ∧ (¬ (cm < (0 : Int32))) ∧ (cm.toNatClampNeg ≤ cm.toNatClampNeg) ∧ ((cn <<< ((0 : Int32) &&& 31)).toNatClampNeg + cm.toNatClampNeg ≤ K.toNatClampNeg) ∧ ((cn <<< ((0 : Int32) &&& 31)).toNatClampNeg = cn.toNatClampNeg) ∧ ((cn.toNatClampNeg + cm.toNatClampNeg) = n2.toNatClampNeg) ∧ (¬ (K < (0 : Int32))) ∧ (K < (1073741823 : Int32)) ∧ (¬ ((K <<< ((1 : Int32) &&& 31)) < (0 : Int32))) ∧ ((K <<< ((1 : Int32) &&& 31)).toNatClampNeg ≤ 400) ∧ (¬ (((((K <<< ((1 : Int32) &&& 31)) >>> ((1 : Int32) &&& 31)) ||| (0 : Int32)) ||| cn) < (0 : Int32))) ∧ (¬ ((((K <<< ((1 : Int32) &&& 31)) >>> ((1 : Int32) &&& 31)) - (0 : Int32)) < cn)) ∧ (2 * ((0 : Int32).toNatClampNeg + cn.toNatClampNeg) ≤ (K <<< ((1 : Int32) &&& 31)).toNatClampNeg) ∧ (cn.toNatClampNeg ≤ K.toNatClampNeg) ∧ (¬ (cn < (0 : Int32))) ∧ (¬ ((cn <<< ((1 : Int32) &&& 31)) < (0 : Int32))) ∧ (¬ ((cm <<< ((1 : Int32) &&& 31)) < (0 : Int32))) ∧ ((cm <<< ((1 : Int32) &&& 31)).toNatClampNeg ≤ (cm <<< ((1 : Int32) &&& 31)).toNatClampNeg) ∧ ((cn <<< ((1 : Int32) &&& 31)).toNatClampNeg + (cm <<< ((1 : Int32) &&& 31)).toNatClampNeg ≤ (K <<< ((1 : Int32) &&& 31)).toNatClampNeg) ∧ ((cn <<< ((1 : Int32) &&& 31)).toNatClampNeg = (2 * cn.toNatClampNeg)) ∧ ((2 * cm.toNatClampNeg) ≤ (cm <<< ((1 : Int32) &&& 31)).toNatClampNeg) ∧ (¬ (((((K <<< ((1 : Int32) &&& 31)) >>> ((1 : Int32) &&& 31)) ||| cn) ||| cm) < (0 : Int32))) ∧ (¬ ((((K <<< ((1 : Int32) &&& 31)) >>> ((1 : Int32) &&& 31)) - cn) < cm)) ∧ (2 * cn.toNatClampNeg = (2 * cn.toNatClampNeg)) ∧ (2 * (cn.toNatClampNeg + cm.toNatClampNeg) ≤ (K <<< ((1 : Int32) &&& 31)).toNatClampNeg)
theorem rm12_16 l Z a0 (hw : HW Z a0) sb ta (cs : List Int32) (cn : Int32) (K : Int32) sx bx (ds : List Int32) (cm : Int32) (n2 : Int32) (G1 : Int32) (G3 : Value) h0 n0 (OLD : Old Z n0 h0) (S_sb : own_sb Z h0 sb ta cs cn K) (A' : Fld Z h0 sb cN0 "count" "I" (.int cn)) (S_sx : own_st Z h0 sx bx ds cm) (O2 : Sta Z Z.heap cN1 "COMPACT_STRINGS" "Z" (.int G1)) (P5 : ¬ (G1 = (0 : Int32))) (ge_ta : n0 ≤ ta) (ne_sb_ta : sb ≠ ta) (O4 : Sta Z Z.heap cN5 "SIOOBE_FORMATTER" "Ljava/util/function/BiFunction;" G3) (rG3 : G3.isRef = true) (Sas : Sta Z Z.heap cN2 "$assertionsDisabled" "Z" (.int 1)) (SHI : Sta Z Z.heap cN2 "HI_BYTE_SHIFT" "I" (.int 0)) (SLO : Sta Z Z.heap cN2 "LO_BYTE_SHIFT" "I" (.int 8)) (ge_sb : n0 ≤ sb) (ne_sx_sb : sx ≠ sb) (ne_bx_sb : bx ≠ sb) (ne_bx_ta : bx ≠ ta) (hC : C12_16 cn K cm n2) :
  own_CN l Z y26 jdk_68_method_22_code 3 (some (.object cN0)) [] R12_16 #[.ref sb, .ref sx] h0 (Q12_16 Z sb ta cs cn K sx bx ds cm n2 G1 G3 h0 n0) := by
 refine own_entryN (plainFor_of_name pn_5) fun p e s m below meth c s₁ hx hby hml hown hnm hret hlk hZ hh X0 e0 => ?_
 obtain ⟨hn5, hn6, hn7, hn8, hn20, hn21, hn22, hn23, hn24, hn25, hn26, hn27, hn28, hn29, hn30, hn31, hn32, hn33, hn34, hn35, hn36, hn37, hn38, hn39, hn40, hn41, hn42, hn43, hn44⟩ := hC
 have N0 := Fr.nil n0
 rw [ef_12_16 m sb sx]
 refine og s₁ (mkF m 10 #[vR sb, vR sx, vU] [.ref sx]) (fun _ k => qa X0 hx hby d12_0 rfl rfl rfl (XS.ifnonnullYes X0.here hx rfl (pc0 := 1) (pc' := 9) rfl (hb hby d12_1) rfl (by decide) (by decide) (qa X0 hx hby d12_9 rfl rfl rfl k))) ?_
 obtain ⟨_, T1, L1, X1, hQ1, st1⟩ := own_vc X0 hx hZ hown (ow hw 86) (ow hw 87) (ow hw 89) (ow hw 88) S_sx.1 (rm13_17 l Z a0 hw sx bx ds cm G1 h0 n0 OLD S_sx O2 P5 ⟨hn5, hn6⟩) (ow hw 90) (ow hw 5) e0 (g := (mkF m 10 #[vR sb, vR sx, vU] [.ref sx])) rfl (zs hml) (argsL := []) (rest := []) (lenOf pd_9 rfl) rfl (hb hby d12_10) (W := 0) rfl
 obtain ⟨rfl, Nq1, eq1⟩ := hQ1
 have N1 := Fr.app N0 Nq1
 refine og T1 (mkF m 16 #[vR sb, vR sx, vI cm] [.ref sb, .ref sb]) (fun _ k => st1.trans (XS.istoreN X1.here hx rfl (hb hby d12_13) rfl (l' := #[vR sb, vR sx, vI cm]) rfl (qa X1 hx hby d12_14 rfl rfl rfl (qa X1 hx hby d12_15 rfl rfl rfl k)))) ?_
 obtain ⟨T2, X2, e2, st2⟩ := qf X1 hx hZ hown (ow hw 96) eq1 A' (g := (mkF m 16 #[vR sb, vR sx, vI cm] [.ref sb, .ref sb])) rfl rfl hby d12_16
 refine og T2 (mkF m 21 #[vR sb, vR sx, vI cm] [(.int (cn + cm)), .ref sb]) (fun _ k => st2 _ (qi X2 hx hby d12_19 rfl rfl (qp X2 hx hby d12_20 rfl rfl k))) ?_
 obtain ⟨_, T3, L3, X3, hQ3, st3⟩ := own_pc X2 hx hZ hown (ow hw 98) (ow hw 101) (ow hw 99) (ow hw 100) S_sb.1 (rm15_19 l Z a0 hw sb ta cs cn K ((cn + cm)) h0 n0 OLD S_sb ⟨hn7, hn8⟩) (ow hw 102) (ow hw 68) e2 (g := (mkF m 21 #[vR sb, vR sx, vI cm] [(.int (cn + cm)), .ref sb])) rfl (zs hml) (argsL := [(.int (cn + cm))]) (rest := []) (lenOf pd_7 rfl) rfl (hb hby d12_21) (W := 0) rfl
 obtain ⟨rfl, Nq3, eq3⟩ := hQ3
 have N3 := Fr.app N1 Nq3
 refine og T3 (mkF m 26 #[vR sb, vR sx, vI cm] [.ref sb, .ref sb]) (fun _ k => st3.trans (qa X3 hx hby d12_24 rfl rfl rfl (qa X3 hx hby d12_25 rfl rfl rfl k))) ?_
 obtain ⟨T4, X4, e4, st4⟩ := qf X3 hx hZ hown (ow hw 96) eq3 A' (g := (mkF m 26 #[vR sb, vR sx, vI cm] [.ref sb, .ref sb])) rfl rfl hby d12_26
 refine og T4 (mkF m 30 #[vR sb, vR sx, vI cm] [.ref sx, .int cn, .ref sb]) (fun _ k => st4 _ (qa X4 hx hby d12_29 rfl rfl rfl k)) ?_
 obtain ⟨_, T5, L5, X5, hQ5, st5⟩ := own_pc X4 hx hZ hown (ow hw 103) (ow hw 106) (ow hw 104) (ow hw 105) S_sb.1 (rm16_20 l Z a0 hw sb ta cs cn K sx bx ds cm n2 G1 G3 h0 n0 OLD S_sb A' S_sx O2 P5 ge_ta ne_sb_ta O4 rG3 Sas SHI SLO ge_sb ne_sx_sb ne_bx_sb ne_bx_ta ⟨hn20, hn21, hn22, hn23, hn24, hn25, hn26, hn27, hn28, hn29, hn30, hn31, hn32, hn33, hn34, hn35, hn36, hn37, hn38, hn39, hn40, hn41, hn42, hn43, hn44⟩) (ow hw 107) (ow hw 68) e4 (g := (mkF m 30 #[vR sb, vR sx, vI cm] [.ref sx, .int cn, .ref sb])) rfl (zs hml) (argsL := [.int cn, .ref sx]) (rest := []) (lenOf pd_20 rfl) rfl (hb hby d12_30) (W := 0) rfl
 obtain ⟨o6, rfl, Nq5, K5, f7, f8, f9⟩ := hQ5
 have N5 := Fr.app N3 Nq5
 have g10 : n0 ≤ o6 := own_altge f7 ge_ta (own_osz OLD)
 have z11 : o6 = ta ∨ h0.size ≤ o6 := own_altz f7 (Nat.le_refl _)
 refine og T5 (mkF m 35 #[vR sb, vR sx, vI cm] [.ref sb, .ref sb]) (fun _ k => st5.trans (qa X5 hx hby d12_33 rfl rfl rfl (XS.dup X5.here hx rfl (hb hby d12_34) rfl rfl k))) ?_
 obtain ⟨T12, X12, e12, st12⟩ := qf X5 hx hZ hown (ow hw 96) rfl f9 (g := (mkF m 35 #[vR sb, vR sx, vI cm] [.ref sb, .ref sb])) rfl rfl hby d12_35
 refine og T12 (mkF m 40 #[vR sb, vR sx, vI cm] [(.int (cn + cm)), .ref sb]) (fun _ k => st12 _ (qi X12 hx hby d12_38 rfl rfl (qp X12 hx hby d12_39 rfl rfl k))) ?_
 have F13 := (S_sb.1.keep K5)
 obtain ⟨T14, h14, X14, e14, W14, st14⟩ := putF X12 hx hZ hown (host := "") (Or.inl (ow hw 96)) Via.refl e12 f9 F13 (Or.inl (ow hw 97)) (ow hw 59) (ty := .int) (by decide) rfl rfl (g := (mkF m 40 #[vR sb, vR sx, vI cm] [(.int (cn + cm)), .ref sb])) rfl rfl (hb hby d12_40)
 have Fw14 := f9.same W14
 have N14 := Fr.snoc X14 N5 ge_sb
 refine og T14 (mkF m 44 #[vR sb, vR sx, vI cm] [.ref sb]) (fun _ k => st14 _ (qa X14 hx hby d12_43 rfl rfl rfl k)) ?_
 have F15 := (f8.wrc W14 (slot_ne (Or.inl (ow hw 73)) (Or.inl (ow hw 97)) (by decide) (t := (.array .byte)) (t' := .int) (by decide) (by decide)) (slot_ne (Or.inl (ow hw 368)) (Or.inl (ow hw 97)) (by decide) (t := .boolean) (t' := .int) (by decide) (by decide)) (slot_ne (Or.inl (ow hw 75)) (Or.inl (ow hw 97)) (by decide) (t := .byte) (t' := .int) (by decide) (by decide)) (Ne.symm (own_altne f7 ne_sb_ta S_sb.lt)))
 have KEEP := (((Keep.refl h0 [sb, ta]).trans K5 (allS (Or.inl (List.mem_of_getElem? (i := 0) rfl)) (allS (Or.inl (List.mem_of_getElem? (i := 1) rfl)) all0))).wr W14 (Or.inl (List.mem_of_getElem? (i := 0) rfl)))
 exact own_leaveN X14 hlk (v := some (.ref sb)) (own_nr hret) (lb rfl) (lb rfl) (by rw [e14]; exact ⟨o6, rfl, N14, KEEP, z11, F15, Fw14⟩) (own_ra X14 hx hret rfl rfl rfl (hb hby d12_44))
abbrev R11_15 : Room := { frames := 9, cells := 1, slots := 400, locals := 130 }
def Q11_15 (Z : State) (sb ta : Addr) (cs : List Int32) (cn K : Int32) (sx bx : Addr) (ds : List Int32) (cm n2 G1 : Int32) (G3 : Value) (h0 : Heap) (n0 : Nat) (v : Option Value) (h : Heap) (L : List Loc) : Prop := (∃ (eq0 : Addr), v = some (.ref sb) ∧ Fr n0 L ∧ Keep h0 h [sb, ta] ∧ (eq0 = ta ∨ h0.size ≤ eq0) ∧ own_sb Z h sb eq0 (cs ++ ds) n2 K ∧ Fld Z h sb cN0 "count" "I" (.int (cn + cm)))
abbrev C11_15 (cn : Int32) (K : Int32) (cm : Int32) (n2 : Int32) : Prop := ((cm >>> ((0 : Int32) &&& 31)) = cm) ∧ (((cm <<< ((1 : Int32) &&& 31)) >>> ((1 : Int32) &&& 31)) = cm) ∧ (¬ ((0 : Int32) < ((cn + cm) - (K >>> ((0 : Int32) &&& 31))))) ∧ (¬ ((0 : Int32) < ((cn + cm) - ((K <<< ((1 : Int32) &&& 31)) >>> ((1 : Int32) &&& 31))))) ∧ (¬ ((cn <<< ((0 : Int32) &&& 31)) < (0 : Int32))) ∧ (¬ (cm < (0 : Int32))) ∧ (cm.toNatClampNeg ≤ cm.toNatClampNeg) ∧ ((cn <<< ((0 : Int32) &&& 31)).toNatClampNeg + cm.toNatClampNeg ≤ K.toNatClampNeg) ∧ ((cn <<< ((0 : Int32) &&& 31)).toNatClampNeg = cn.toNatClampNeg) ∧ ((cn.toNatClampNeg + cm.toNatClampNeg) = n2.toNatClampNeg) ∧ (¬ (K < (0 : Int32))) ∧ (K < (1073741823 : Int32)) ∧ (¬ ((K <<< ((1 : Int32) &&& 31)) < (0 : Int32))) ∧ ((K <<< ((1 : Int32) &&& 31)).toNatClampNeg ≤ 400) ∧ (¬ (((((K <<< ((1 : Int32) &&& 31)) >>> ((1 : Int32) &&& 31)) ||| (0 : Int32)) ||| cn) < (0 : Int32))) ∧ (¬ ((((K <<< ((1 : Int32) &&& 31)) >>> ((1 : Int32) &&& 31)) - (0 : Int32)) < cn)) ∧ (2 * ((0 : Int32).toNatClampNeg + cn.toNatClampNeg) ≤ (K <<< ((1 : Int32) &&& 31)).toNatClampNeg) ∧ (cn.toNatClampNeg ≤ K.toNatClampNeg) ∧ (¬ (cn < (0 : Int32))) ∧ (¬ ((cn <<< ((1 : Int32) &&& 31)) < (0 : Int32))) ∧ (¬ ((cm <<< ((1 : Int32) &&& 31)) < (0 : Int32))) ∧ ((cm <<< ((1 : Int32) &&& 31)).toNatClampNeg ≤ (cm <<< ((1 : Int32) &&& 31)).toNatClampNeg) ∧ ((cn <<< ((1 : Int32) &&& 31)).toNatClampNeg + (cm <<< ((1 : Int32) &&& 31)).toNatClampNeg ≤ (K <<< ((1 : Int32) &&& 31)).toNatClampNeg) ∧ ((cn <<< ((1 : Int32) &&& 31)).toNatClampNeg = (2 * cn.toNatClampNeg)) ∧ ((2 * cm.toNatClampNeg) ≤ (cm <<< ((1 : Int32) &&& 31)).toNatClampNeg) ∧ (¬ (((((K <<< ((1 : Int32) &&& 31)) >>> ((1 : Int32) &&& 31)) ||| cn) ||| cm) < (0 : Int32))) ∧ (¬ ((((K <<< ((1 : Int32) &&& 31)) >>> ((1 : Int32) &&& 31)) - cn) < cm)) ∧ (2 * cn.toNatClampNeg = (2 * cn.toNatClampNeg)) ∧ (2 * (cn.toNatClampNeg + cm.toNatClampNeg) ≤ (K <<< ((1 : Int32) &&& 31)).toNatClampNeg)
theorem rm11_15 l Z a0 (hw : HW Z a0) sb ta (cs : List Int32) (cn : Int32) (K : Int32) sx bx (ds : List Int32) (cm : Int32) (n2 : Int32) (G1 : Int32) (G3 : Value) h0 n0 (OLD : Old Z n0 h0) (S_sb : own_sb Z h0 sb ta cs cn K) (A' : Fld Z h0 sb cN0 "count" "I" (.int cn)) (S_sx : own_st Z h0 sx bx ds cm) (O2 : Sta Z Z.heap cN1 "COMPACT_STRINGS" "Z" (.int G1)) (P5 : ¬ (G1 = (0 : Int32))) (ge_ta : n0 ≤ ta) (ne_sb_ta : sb ≠ ta) (O4 : Sta Z Z.heap cN5 "SIOOBE_FORMATTER" "Ljava/util/function/BiFunction;" G3) (rG3 : G3.isRef = true) (Sas : Sta Z Z.heap cN2 "$assertionsDisabled" "Z" (.int 1)) (SHI : Sta Z Z.heap cN2 "HI_BYTE_SHIFT" "I" (.int 0)) (SLO : Sta Z Z.heap cN2 "LO_BYTE_SHIFT" "I" (.int 8)) (ge_sb : n0 ≤ sb) (ne_sx_sb : sx ≠ sb) (ne_bx_sb : bx ≠ sb) (ne_bx_ta : bx ≠ ta) (hC : C11_15 cn K cm n2) :
  own_CN l Z y27 jdk_67_method_7_code 2 (some (.object cN6)) [] R11_15 #[.ref sb, .ref sx] h0 (Q11_15 Z sb ta cs cn K sx bx ds cm n2 G1 G3 h0 n0) := by
 refine own_entryN (plainFor_of_name pn_6) fun p e s m below meth c s₁ hx hby hml hown hnm hret hlk hZ hh X0 e0 => ?_
 obtain ⟨hn16, hn17, hn18, hn19, hn20, hn21, hn22, hn23, hn24, hn25, hn26, hn27, hn28, hn29, hn30, hn31, hn32, hn33, hn34, hn35, hn36, hn37, hn38, hn39, hn40, hn41, hn42, hn43, hn44⟩ := hC
 have N0 := Fr.nil n0
 rw [ef_17_21 m sb sx]
 refine og s₁ (mkF m 2 #[vR sb, vR sx] [.ref sx, .ref sb]) (fun _ k => qa X0 hx hby d11_0 rfl rfl rfl (qa X0 hx hby d11_1 rfl rfl rfl k)) ?_
 obtain ⟨_, _, ⟨T2, L2, k2, n2⟩, -, X2, ⟨Lc2, hQ2, l2, y2, z2⟩, st2⟩ := superBack X0 hx hZ (y := y26) hown (ow hw 81) (own_same (z := y12) (ow hw 101) (ow hw 82) rfl (by decide)) (ow hw 82) (ow hw 83) (by decide) (backOf (W := 0) (rm12_16 l Z a0 hw sb ta cs cn K sx bx ds cm n2 G1 G3 h0 n0 OLD S_sb A' S_sx O2 P5 ge_ta ne_sb_ta O4 rG3 Sas SHI SLO ge_sb ne_sx_sb ne_bx_sb ne_bx_ta ⟨hn16, hn17, hn18, hn19, hn20, hn21, hn22, hn23, hn24, hn25, hn26, hn27, hn28, hn29, hn30, hn31, hn32, hn33, hn34, hn35, hn36, hn37, hn38, hn39, hn40, hn41, hn42, hn43, hn44⟩) hZ (ow hw 85) (ow hw 68) (lb rfl) (lb rfl)) e0 (Ins.self S_sb.1) (g := (mkF m 2 #[vR sb, vR sx] [.ref sx, .ref sb])) rfl (zs hml) (ow hw 85) (argsL := [.ref sx]) (rest := []) (lenOf pd_21 rfl) rfl (lb rfl) (hb hby d11_2) (fun _ _ => ⟨rfl, e0, (lb rfl), (lb rfl)⟩)
 dsimp only [Pt.U, Pt.locs, Pt.cells, Pt.slots] at X2 l2 y2 z2 st2 hQ2
 subst l2 y2 z2
 obtain ⟨o3, rfl, Nq2, K2, f4, f5, f6⟩ := hQ2
 have N2 := Fr.app N0 Nq2
 have g7 : n0 ≤ o3 := own_altge f4 ge_ta (own_osz OLD)
 have z8 : o3 = ta ∨ h0.size ≤ o3 := own_altz f4 (Nat.le_refl _)
 refine og T2 (mkF m 7 #[vR sb, vR sx] [.ref sb]) (fun _ k => st2.trans (XS.pop X2.here hx rfl (hb hby d11_5) rfl rfl (qa X2 hx hby d11_6 rfl rfl rfl k))) ?_
 have KEEP := ((Keep.refl h0 [sb, ta]).trans K2 (allS (Or.inl (List.mem_of_getElem? (i := 0) rfl)) (allS (Or.inl (List.mem_of_getElem? (i := 1) rfl)) all0)))
 exact own_leaveN X2 hlk (v := some (.ref sb)) (own_nr hret) (lb rfl) (lb rfl) (by exact ⟨o3, rfl, N2, KEEP, z8, f5, f6⟩) (own_ra X2 hx hret rfl rfl rfl (hb hby d11_7))
abbrev R21_48 : Room := { frames := 0, cells := 0, slots := 0, locals := 0 }
def Q21_48 (Z : State) (cn0 cn1 : Int32) (h0 : Heap) (n0 : Nat) (v : Option Value) (h : Heap) (L : List Loc) : Prop := (v = some (.int cn1) ∧ Fr n0 L ∧ h = h0)
theorem rm21_48 l Z a0 (hw : HW Z a0) (cn0 : Int32) (cn1 : Int32) h0 n0 (OLD : Old Z n0 h0) (hn0 : cn0 < cn1) :
  own_CN l Z y28 jdk_29_method_65_code 2 (some .int) [] R21_48 #[.int cn0, .int cn1] h0 (Q21_48 Z cn0 cn1 h0 n0) := by
 refine own_entryN (Jvm.Free.JP.mathPlain rfl (by decide +kernel)) fun p e s m below meth c s₁ hx hby hml hown hnm hret hlk hZ hh X0 e0 => ?_
 have N0 := Fr.nil n0
 rw [ef_21_48 m cn0 cn1]
 refine og s₁ (mkF m 10 #[vI cn0, vI cn1] [.int cn1]) (fun _ k => qi X0 hx hby d21_0 rfl rfl (qi X0 hx hby d21_1 rfl rfl (XS.icmpYes X0.here hx rfl (pc0 := 2) (pc' := 9) rfl (hb hby d21_2) rfl (tlt hn0).1 (by decide) (by decide) (qi X0 hx hby d21_9 rfl rfl k)))) ?_
 exact own_leaveN X0 hlk (v := some (.int cn1)) (own_nr hret) (lb rfl) (lb rfl) (by rw [e0]; exact ⟨rfl, N0, rfl⟩) (fun fs hr => retI X0 hx hret (hb hby d21_10) hr)
abbrev R20_47 : Room := { frames := 1, cells := 0, slots := 0, locals := 14 }
def Q20_47 (Z : State) (cn0 cn1 cn2 : Int32) (h0 : Heap) (n0 : Nat) (v : Option Value) (h : Heap) (L : List Loc) : Prop := (v = some (.int (cn0 + cn2)) ∧ Fr n0 L ∧ h = h0)
theorem rm20_47 l Z a0 (hw : HW Z a0) (cn0 : Int32) (cn1 : Int32) (cn2 : Int32) h0 n0 (OLD : Old Z n0 h0) (hn0 : cn1 < cn2) (hn1 : (0 : Int32) < (cn0 + cn2)) (hn2 : ¬ ((2147483639 : Int32) < (cn0 + cn2))) :
  own_CN l Z y29 jdk_48_method_27_code 4 (some .int) [] R20_47 #[.int cn0, .int cn1, .int cn2] h0 (Q20_47 Z cn0 cn1 cn2 h0 n0) := by
 refine own_entryN (plainFor_of_name pn_8) fun p e s m below meth c s₁ hx hby hml hown hnm hret hlk hZ hh X0 e0 => ?_
 have N0 := Fr.nil n0
 rw [ef_20_47 m cn0 cn1 cn2]
 refine og s₁ (mkF m 3 #[vI cn0, vI cn1, vI cn2, vU] [.int cn2, .int cn1, .int cn0]) (fun _ k => qi X0 hx hby d20_0 rfl rfl (qi X0 hx hby d20_1 rfl rfl (qi X0 hx hby d20_2 rfl rfl k))) ?_
 obtain ⟨_, T1, L1, X1, hQ1, st1⟩ := own_tc X0 hx hZ hown (ow hw 133) (ow hw 134) (rm21_48 l Z a0 hw cn1 cn2 h0 n0 OLD hn0) (ow hw 136) (ow hw 135) e0 (g := (mkF m 3 #[vI cn0, vI cn1, vI cn2, vU] [.int cn2, .int cn1, .int cn0])) rfl (zs hml) (argsL := [.int cn1, .int cn2]) (rest := [.int cn0]) (lenOf pd_23 rfl) rfl (hb hby d20_3) (W := 1) rfl
 obtain ⟨rfl, Nq1, eq1⟩ := hQ1
 have N1 := Fr.app N0 Nq1
 refine og T1 (mkF m 14 #[vI cn0, vI cn1, vI cn2, vI (cn0 + cn2)] [(.int (cn0 + cn2))]) (fun _ k => st1.trans (qp X1 hx hby d20_6 rfl rfl (XS.istoreN X1.here hx rfl (hb hby d20_7) rfl (l' := #[vI cn0, vI cn1, vI cn2, vI (cn0 + cn2)]) rfl (qc X1 hx hby d20_8 rfl (qi X1 hx hby d20_9 rfl rfl (qn X1 hx hby d20_10 rfl rfl (tlt hn1).2.1 (qi X1 hx hby d20_13 rfl rfl k))))))) ?_
 refine og T1 (mkF m 16 #[vI cn0, vI cn1, vI cn2, vI (cn0 + cn2)] [.int 2147483639, (.int (cn0 + cn2))]) (fun t k => X1.ldcInt hx hown (mvT hZ (ow hw 137)) (g := (mkF m 14 #[vI cn0, vI cn1, vI cn2, vI (cn0 + cn2)] [(.int (cn0 + cn2))])) rfl (hb hby d20_14) t k) ?_
 refine og T1 (mkF m 20 #[vI cn0, vI cn1, vI cn2, vI (cn0 + cn2)] [(.int (cn0 + cn2))]) (fun _ k => qn X1 hx hby d20_16 rfl rfl (flt hn2).2.2.1 (qi X1 hx hby d20_19 rfl rfl k)) ?_
 exact own_leaveN X1 hlk (v := some (.int (cn0 + cn2))) (own_nr hret) (lb rfl) (lb rfl) (by rw [eq1]; exact ⟨rfl, N1, rfl⟩) (fun fs hr => retI X1 hx hret (hb hby d20_20) hr)
abbrev R19_46 : Room := { frames := 2, cells := 0, slots := 0, locals := 29 }
def Q19_46 (Z : State) (ra0 : Addr) (cn0 : Int32) (ra1 : Addr) (kc2 : ClassId) (cs3 : List Int32) (nl3 : Nat) (cn2 cn3 : Int32) (h0 : Heap) (n0 : Nat) (v : Option Value) (h : Heap) (L : List Loc) : Prop := (v = some (.int ((cn2 + (cn2 + (2 : Int32))) >>> ((0 : Int32) &&& 31))) ∧ Fr n0 L ∧ h = h0)
theorem rm19_46 l Z a0 (hw : HW Z a0) ra0 (cn0 : Int32) ra1 kc2 (cs3 : List Int32) nl3 (cn2 : Int32) (cn3 : Int32) h0 n0 (OLD : Old Z n0 h0) (A' : Exa Z h0 ra0 cN6) (B' : Fld Z h0 ra0 cN0 "coder" "B" (.int 0)) (C' : Fld Z h0 ra0 cN0 "count" "I" (.int cn0)) (D' : Fld Z h0 ra0 cN0 "maybeLatin1" "Z" (.int 0)) (E' : Fld Z h0 ra0 cN0 "value" "[B" (.ref ra1)) (F' : Exa Z h0 ra1 "[B") (G' : cs3.length = nl3) (H' : own_L cs3) (I' : Arv Z h0 ra1 kc2 .byte cn2 (own_by cs3) (.int 0)) (hn9 : ((cn3 <<< ((0 : Int32) &&& 31)) - cn2) < (cn2 + (2 : Int32))) (hn10 : (0 : Int32) < (cn2 + (cn2 + (2 : Int32)))) (hn11 : ¬ ((2147483639 : Int32) < (cn2 + (cn2 + (2 : Int32))))) (hn12 : ¬ ((cn2 + (cn2 + (2 : Int32))) = (2147483647 : Int32))) :
  own_CN l Z y30 jdk_68_method_10_code 6 (some .int) [] R19_46 #[.ref ra0, .int cn3] h0 (Q19_46 Z ra0 cn0 ra1 kc2 cs3 nl3 cn2 cn3 h0 n0) := by
 refine own_entryN (plainFor_of_name pn_5) fun p e s m below meth c s₁ hx hby hml hown hnm hret hlk hZ hh X0 e0 => ?_
 have N0 := Fr.nil n0
 rw [ef_19_46 m ra0 cn3]
 refine og s₁ (mkF m 1 #[vR ra0, vI cn3, vU, vU, vU, vU] [.ref ra0]) (fun _ k => qa X0 hx hby d19_0 rfl rfl rfl k) ?_
 obtain ⟨T1, X1, e1, st1⟩ := qf X0 hx hZ hown (ow hw 72) e0 E' (g := (mkF m 1 #[vR ra0, vI cn3, vU, vU, vU, vU] [.ref ra0])) rfl rfl hby d19_1
 refine og T1 (mkF m 4 #[vR ra0, vI cn3, vU, vU, vU, vU] [.ref ra1]) st1 ?_
 obtain ⟨cl2, Ar2, -, Sr2, Nr2, -, -⟩ := id I'
 refine og T1 (mkF m 5 #[vR ra0, vI cn3, vU, vU, vU, vU] [.int cn2]) (fun t k => X1.arraylength hx (by rw [e1]; exact Ar2.1) (State.isArrayOf_alike hZ.alike Ar2.2.1) (g := (mkF m 4 #[vR ra0, vI cn3, vU, vU, vU, vU] [.ref ra1])) rfl rfl (hb hby d19_4) t (by rw [len_of Sr2 Nr2]; exact k)) ?_
 refine og T1 (mkF m 8 #[vR ra0, vI cn3, vI cn2, vU, vU, vU] [.ref ra0, .int cn3]) (fun _ k => XS.istoreN X1.here hx rfl (hb hby d19_5) rfl (l' := #[vR ra0, vI cn3, vI cn2, vU, vU, vU]) rfl (qi X1 hx hby d19_6 rfl rfl (qa X1 hx hby d19_7 rfl rfl rfl k))) ?_
 obtain ⟨T3, X3, e3, st3⟩ := qf X1 hx hZ hown (ow hw 74) e1 B' (g := (mkF m 8 #[vR ra0, vI cn3, vI cn2, vU, vU, vU] [.ref ra0, .int cn3])) rfl rfl hby d19_8
 refine og T3 (mkF m 23 #[vR ra0, vI cn3, vI cn2, vI (cn3 <<< ((0 : Int32) &&& 31)), vI ((cn3 <<< ((0 : Int32) &&& 31)) - cn2), vU] [.int 2, .int cn2, (.int ((cn3 <<< ((0 : Int32) &&& 31)) - cn2)), .int cn2]) (fun _ k => st3 _ (XS.ishl X3.here hx rfl (hb hby d19_11) rfl (XS.istoreN X3.here hx rfl (hb hby d19_12) rfl (l' := #[vR ra0, vI cn3, vI cn2, vI (cn3 <<< ((0 : Int32) &&& 31)), vU, vU]) rfl (qi X3 hx hby d19_13 rfl rfl (qi X3 hx hby d19_14 rfl rfl (XS.isub X3.here hx rfl (hb hby d19_15) rfl (XS.istore X3.here hx rfl (hb hby d19_16) rfl (l' := #[vR ra0, vI cn3, vI cn2, vI (cn3 <<< ((0 : Int32) &&& 31)), vI ((cn3 <<< ((0 : Int32) &&& 31)) - cn2), vU]) rfl (qi X3 hx hby d19_18 rfl rfl (XS.iload X3.here hx rfl (hb hby d19_19) rfl (qi X3 hx hby d19_21 rfl rfl (qc X3 hx hby d19_22 rfl k))))))))))) ?_
 refine og T3 (mkF m 24 #[vR ra0, vI cn3, vI cn2, vI (cn3 <<< ((0 : Int32) &&& 31)), vI ((cn3 <<< ((0 : Int32) &&& 31)) - cn2), vU] [.ref ra0, .int 2, .int cn2, (.int ((cn3 <<< ((0 : Int32) &&& 31)) - cn2)), .int cn2]) (fun _ k => qa X3 hx hby d19_23 rfl rfl rfl k) ?_
 obtain ⟨T4, X4, e4, st4⟩ := qf X3 hx hZ hown (ow hw 74) e3 B' (g := (mkF m 24 #[vR ra0, vI cn3, vI cn2, vI (cn3 <<< ((0 : Int32) &&& 31)), vI ((cn3 <<< ((0 : Int32) &&& 31)) - cn2), vU] [.ref ra0, .int 2, .int cn2, (.int ((cn3 <<< ((0 : Int32) &&& 31)) - cn2)), .int cn2])) rfl rfl hby d19_24
 refine og T4 (mkF m 28 #[vR ra0, vI cn3, vI cn2, vI (cn3 <<< ((0 : Int32) &&& 31)), vI ((cn3 <<< ((0 : Int32) &&& 31)) - cn2), vU] [.int 2, .int cn2, (.int ((cn3 <<< ((0 : Int32) &&& 31)) - cn2)), .int cn2]) (fun _ k => st4 _ (XS.ishl X4.here hx rfl (hb hby d19_27) rfl (by rw [show ((2 : Int32) <<< ((0 : Int32) &&& 31)) = (2 : Int32) from by decide]; exact k))) ?_
 refine og T4 (mkF m 29 #[vR ra0, vI cn3, vI cn2, vI (cn3 <<< ((0 : Int32) &&& 31)), vI ((cn3 <<< ((0 : Int32) &&& 31)) - cn2), vU] [(.int (cn2 + (2 : Int32))), (.int ((cn3 <<< ((0 : Int32) &&& 31)) - cn2)), .int cn2]) (fun _ k => qp X4 hx hby d19_28 rfl rfl k) ?_
 obtain ⟨_, T5, L5, X5, hQ5, st5⟩ := own_tc X4 hx hZ hown (ow hw 129) (ow hw 130) (rm20_47 l Z a0 hw cn2 (((cn3 <<< ((0 : Int32) &&& 31)) - cn2)) ((cn2 + (2 : Int32))) h0 n0 OLD hn9 hn10 hn11) (ow hw 132) (ow hw 131) e4 (g := (mkF m 29 #[vR ra0, vI cn3, vI cn2, vI (cn3 <<< ((0 : Int32) &&& 31)), vI ((cn3 <<< ((0 : Int32) &&& 31)) - cn2), vU] [(.int (cn2 + (2 : Int32))), (.int ((cn3 <<< ((0 : Int32) &&& 31)) - cn2)), .int cn2])) rfl (zs hml) (argsL := [.int cn2, (.int ((cn3 <<< ((0 : Int32) &&& 31)) - cn2)), (.int (cn2 + (2 : Int32)))]) (rest := []) (lenOf pd_17 rfl) rfl (hb hby d19_29) (W := 0) rfl
 obtain ⟨rfl, Nq5, eq5⟩ := hQ5
 have N5 := Fr.app N0 Nq5
 refine og T5 (mkF m 36 #[vR ra0, vI cn3, vI cn2, vI (cn3 <<< ((0 : Int32) &&& 31)), vI ((cn3 <<< ((0 : Int32) &&& 31)) - cn2), vI (cn2 + (cn2 + (2 : Int32)))] [(.int (cn2 + (cn2 + (2 : Int32))))]) (fun _ k => st5.trans (XS.istore X5.here hx rfl (hb hby d19_32) rfl (l' := #[vR ra0, vI cn3, vI cn2, vI (cn3 <<< ((0 : Int32) &&& 31)), vI ((cn3 <<< ((0 : Int32) &&& 31)) - cn2), vI (cn2 + (cn2 + (2 : Int32)))]) rfl (XS.iload X5.here hx rfl (hb hby d19_34) rfl k))) ?_
 refine og T5 (mkF m 38 #[vR ra0, vI cn3, vI cn2, vI (cn3 <<< ((0 : Int32) &&& 31)), vI ((cn3 <<< ((0 : Int32) &&& 31)) - cn2), vI (cn2 + (cn2 + (2 : Int32)))] [.int 2147483647, (.int (cn2 + (cn2 + (2 : Int32))))]) (fun t k => X5.ldcInt hx hown (mvT hZ (ow hw 138)) (g := (mkF m 36 #[vR ra0, vI cn3, vI cn2, vI (cn3 <<< ((0 : Int32) &&& 31)), vI ((cn3 <<< ((0 : Int32) &&& 31)) - cn2), vI (cn2 + (cn2 + (2 : Int32)))] [(.int (cn2 + (cn2 + (2 : Int32))))])) rfl (hb hby d19_36) t k) ?_
 refine og T5 (mkF m 54 #[vR ra0, vI cn3, vI cn2, vI (cn3 <<< ((0 : Int32) &&& 31)), vI ((cn3 <<< ((0 : Int32) &&& 31)) - cn2), vI (cn2 + (cn2 + (2 : Int32)))] [.ref ra0, (.int (cn2 + (cn2 + (2 : Int32))))]) (fun _ k => XS.icmpYes X5.here hx rfl (pc0 := 38) (pc' := 51) rfl (hb hby d19_38) rfl (feq hn12).2 (by decide) (by decide) (XS.iload X5.here hx rfl (hb hby d19_51) rfl (qa X5 hx hby d19_53 rfl rfl rfl k))) ?_
 obtain ⟨T6, X6, e6, st6⟩ := qf X5 hx hZ hown (ow hw 74) eq5 B' (g := (mkF m 54 #[vR ra0, vI cn3, vI cn2, vI (cn3 <<< ((0 : Int32) &&& 31)), vI ((cn3 <<< ((0 : Int32) &&& 31)) - cn2), vI (cn2 + (cn2 + (2 : Int32)))] [.ref ra0, (.int (cn2 + (cn2 + (2 : Int32))))])) rfl rfl hby d19_54
 refine og T6 (mkF m 58 #[vR ra0, vI cn3, vI cn2, vI (cn3 <<< ((0 : Int32) &&& 31)), vI ((cn3 <<< ((0 : Int32) &&& 31)) - cn2), vI (cn2 + (cn2 + (2 : Int32)))] [(.int ((cn2 + (cn2 + (2 : Int32))) >>> ((0 : Int32) &&& 31)))]) (fun _ k => st6 _ (XS.ishr X6.here hx rfl (hb hby d19_57) rfl k)) ?_
 exact own_leaveN X6 hlk (v := some (.int ((cn2 + (cn2 + (2 : Int32))) >>> ((0 : Int32) &&& 31)))) (own_nr hret) (lb rfl) (lb rfl) (by rw [e6]; exact ⟨rfl, N5, rfl⟩) (fun fs hr => retI X6 hx hret (hb hby d19_58) hr)
abbrev R23_50 : Room := { frames := 0, cells := 0, slots := 0, locals := 0 }
def Q23_50 (Z : State) (cn0 cn1 : Int32) (h0 : Heap) (n0 : Nat) (v : Option Value) (h : Heap) (L : List Loc) : Prop := (v = some (.int cn0) ∧ Fr n0 L ∧ h = h0)
theorem rm23_50 l Z a0 (hw : HW Z a0) (cn0 : Int32) (cn1 : Int32) h0 n0 (OLD : Old Z n0 h0) (hn0 : ¬ (cn1 < cn0)) :
  own_CN l Z y31 jdk_29_method_69_code 2 (some .int) [] R23_50 #[.int cn0, .int cn1] h0 (Q23_50 Z cn0 cn1 h0 n0) := by
 refine own_entryN (Jvm.Free.JP.mathPlain rfl (by decide +kernel)) fun p e s m below meth c s₁ hx hby hml hown hnm hret hlk hZ hh X0 e0 => ?_
 have N0 := Fr.nil n0
 rw [ef_21_48 m cn0 cn1]
 refine og s₁ (mkF m 10 #[vI cn0, vI cn1] [.int cn0]) (fun _ k => qi X0 hx hby d23_0 rfl rfl (qi X0 hx hby d23_1 rfl rfl (qn X0 hx hby d23_2 rfl rfl (flt hn0).2.2.1 (qi X0 hx hby d23_5 rfl rfl (XS.goto X0.here hx rfl (pc0 := 6) (pc' := 10) rfl (hb hby d23_6) (by decide) (by decide) k))))) ?_
 exact own_leaveN X0 hlk (v := some (.int cn0)) (own_nr hret) (lb rfl) (lb rfl) (by rw [e0]; exact ⟨rfl, N0, rfl⟩) (fun fs hr => retI X0 hx hret (hb hby d23_10) hr)
abbrev R22_49 : Room := { frames := 1, cells := 1, slots := 400, locals := 18 }
def Q22_49 (Z : State) (ra0 : Addr) (kc1 : ClassId) (cs2 : List Int32) (nl2 : Nat) (cn1 cn2 : Int32) (h0 : Heap) (n0 : Nat) (v : Option Value) (h : Heap) (L : List Loc) : Prop := (∃ (b2 : Addr) (k2 : ClassId), v = some (.ref b2) ∧ Fr n0 L ∧ Keep h0 h [] ∧ h0.size ≤ b2 ∧ Exa Z h b2 "[B" ∧ Arv Z h b2 k2 .byte cn2 (own_by cs2) (.int 0))
theorem rm22_49 l Z a0 (hw : HW Z a0) ra0 kc1 (cs2 : List Int32) nl2 (cn1 : Int32) (cn2 : Int32) h0 n0 (OLD : Old Z n0 h0) (A' : Exa Z h0 ra0 "[B") (B' : cs2.length = nl2) (C' : own_L cs2) (D' : Arv Z h0 ra0 kc1 .byte cn1 (own_by cs2) (.int 0)) (hn4 : ¬ (cn2 = cn1)) (hn5 : ¬ (cn2 < (0 : Int32))) (hn6 : cn2.toNatClampNeg ≤ 400) (hn7 : ¬ (cn2 < cn1)) (hn8 : ¬ (cn1 < (0 : Int32))) (hn9 : cn1.toNatClampNeg ≤ cn1.toNatClampNeg) (hn10 : (0 : Int32).toNatClampNeg + cn1.toNatClampNeg ≤ cn2.toNatClampNeg) (hn11 : nl2 ≤ cn1.toNatClampNeg) :
  own_CN l Z y32 jdk_65_method_121_code 3 (some (.array .byte)) [] R22_49 #[.ref ra0, .int cn2] h0 (Q22_49 Z ra0 kc1 cs2 nl2 cn1 cn2 h0 n0) := by
 refine own_entryN (plainFor_of_name pn_9) fun p e s m below meth c s₁ hx hby hml hown hnm hret hlk hZ hh X0 e0 => ?_
 have N0 := Fr.nil n0
 rw [ef_15_19 m ra0 cn2]
 refine og s₁ (mkF m 2 #[vR ra0, vI cn2, vU] [.ref ra0, .int cn2]) (fun _ k => qi X0 hx hby d22_0 rfl rfl (qa X0 hx hby d22_1 rfl rfl rfl k)) ?_
 obtain ⟨cl1, Ar1, -, Sr1, Nr1, -, -⟩ := id D'
 refine og s₁ (mkF m 3 #[vR ra0, vI cn2, vU] [.int cn1, .int cn2]) (fun t k => X0.arraylength hx (by rw [e0]; exact Ar1.1) (State.isArrayOf_alike hZ.alike Ar1.2.1) (g := (mkF m 2 #[vR ra0, vI cn2, vU] [.ref ra0, .int cn2])) rfl rfl (hb hby d22_2) t (by rw [len_of Sr1 Nr1]; exact k)) ?_
 refine og s₁ (mkF m 15 #[vR ra0, vI cn2, vU] [.int cn2]) (fun _ k => XS.icmpYes X0.here hx rfl (pc0 := 3) (pc' := 14) rfl (hb hby d22_3) rfl (feq hn4).2 (by decide) (by decide) (qi X0 hx hby d22_14 rfl rfl k)) ?_
 obtain ⟨T2, h2, k2, X2, e2, E2, A2, Ea2, st2⟩ := newPE X0 hx hZ (ow hw 17) e0 (g := (mkF m 15 #[vR ra0, vI cn2, vU] [.int cn2])) rfl (hb hby d22_15) rfl hn5 (cap := 400) hn6 (lb rfl) (lb rfl) (lb rfl) (ad := "[B") (by decide)
 obtain ⟨b2, gb2⟩ : ∃ z, z = h0.size := ⟨_, rfl⟩
 rw [← gb2] at A2 Ea2 st2
 have g3 : n0 ≤ b2 := Nat.le_trans (own_osz OLD) (Nat.le_of_eq gb2.symm)
 have z4 : h0.size ≤ b2 := Nat.le_trans (Nat.le_refl _) (Nat.le_of_eq gb2.symm)
 have V2 : Arv Z h2 b2 k2 .byte cn2 (own_by ([] : List Int32)) (.int 0) := Arv.new A2 hn5
 refine og T2 (mkF m 23 #[vR ra0, vI cn2, vR b2] [.ref ra0, .int 0, .ref b2, .int 0, .ref ra0]) (fun _ k => st2 _ (XS.astoreN X2.here hx rfl (hb hby d22_17) rfl rfl (l' := #[vR ra0, vI cn2, vR b2]) rfl (qa X2 hx hby d22_18 rfl rfl rfl (qc X2 hx hby d22_19 rfl (qa X2 hx hby d22_20 rfl rfl rfl (qc X2 hx hby d22_21 rfl (qa X2 hx hby d22_22 rfl rfl rfl k))))))) ?_
 have F5 := (D'.ext E2)
 obtain ⟨cl6, Ar6, -, Sr6, Nr6, -, -⟩ := id F5
 refine og T2 (mkF m 24 #[vR ra0, vI cn2, vR b2] [.int cn1, .int 0, .ref b2, .int 0, .ref ra0]) (fun t k => X2.arraylength hx (by rw [e2]; exact Ar6.1) (State.isArrayOf_alike hZ.alike Ar6.2.1) (g := (mkF m 23 #[vR ra0, vI cn2, vR b2] [.ref ra0, .int 0, .ref b2, .int 0, .ref ra0])) rfl rfl (hb hby d22_23) t (by rw [len_of Sr6 Nr6]; exact k)) ?_
 refine og T2 (mkF m 25 #[vR ra0, vI cn2, vR b2] [.int cn2, .int cn1, .int 0, .ref b2, .int 0, .ref ra0]) (fun _ k => qi X2 hx hby d22_24 rfl rfl k) ?_
 have F7 := (OLD.ext E2)
 obtain ⟨_, T8, L8, X8, hQ8, st8⟩ := own_tc X2 hx hZ hown (ow hw 143) (ow hw 144) (rm23_50 l Z a0 hw cn1 cn2 h2 n0 F7 hn7) (ow hw 145) (ow hw 135) e2 (g := (mkF m 25 #[vR ra0, vI cn2, vR b2] [.int cn2, .int cn1, .int 0, .ref b2, .int 0, .ref ra0])) rfl (zs hml) (argsL := [.int cn1, .int cn2]) (rest := [.int 0, .ref b2, .int 0, .ref ra0]) (lenOf pd_23 rfl) rfl (hb hby d22_25) (W := 4) rfl
 obtain ⟨rfl, Nq8, eq8⟩ := hQ8
 have N8 := Fr.app N0 Nq8
 refine ot T8 (mkF m 28 #[vR ra0, vI cn2, vR b2] [.int cn1, .int 0, .ref b2, .int 0, .ref ra0]) st8 ?_
 obtain ⟨T9, h9, L9, X9, e9, N9, K9, Vq9, st9⟩ := own_cpB X8 hx hZ hown (ow hw 146) (ow hw 122) (ow hw 120) (ow hw 121) eq8 F5 V2 (sp := (0 : Int32)) (dp := (0 : Int32)) (nn := cn1) rfl (by decide : ¬ ((0 : Int32) < (0 : Int32))) hn8 hn9 hn10 (Eq.trans rfl (Eq.symm (by decide : (0 : Int32).toNatClampNeg = 0))) (Nat.le_trans (Nat.le_of_eq B') hn11) N8 g3 (g := (mkF m 28 #[vR ra0, vI cn2, vR b2] [.int cn1, .int 0, .ref b2, .int 0, .ref ra0])) rfl (zs hml) rfl (hb hby d22_28) (lb rfl) (W := 0) (lb rfl) (lb rfl)
 have V9 : Arv Z h9 b2 k2 .byte cn2 (own_by cs2) (.int 0) := (by simpa using Vq9)
 refine og T9 (mkF m 32 #[vR ra0, vI cn2, vR b2] [.ref b2]) (fun _ k => st9 _ (qa X9 hx hby d22_31 rfl rfl rfl k)) ?_
 have F10 := (Ea2.keep K9)
 have KEEP := (((Keep.refl h0 []).ext E2).trans K9 (allS (Or.inr z4) all0))
 exact own_leaveN X9 hlk (v := some (.ref b2)) (own_nr hret) (lb rfl) (lb rfl) (by rw [e9]; exact ⟨b2, k2, rfl, N9, KEEP, z4, F10, V9⟩) (own_ra X9 hx hret rfl rfl rfl (hb hby d22_32))
abbrev R19_51 : Room := { frames := 2, cells := 0, slots := 0, locals := 29 }
def Q19_51 (Z : State) (ra0 : Addr) (cn0 : Int32) (ra1 : Addr) (kc2 : ClassId) (cs3 : List Int32) (nl3 : Nat) (cn2 cn3 : Int32) (h0 : Heap) (n0 : Nat) (v : Option Value) (h : Heap) (L : List Loc) : Prop := (v = some (.int ((cn2 + (cn2 + (4 : Int32))) >>> ((1 : Int32) &&& 31))) ∧ Fr n0 L ∧ h = h0)
theorem rm19_51 l Z a0 (hw : HW Z a0) ra0 (cn0 : Int32) ra1 kc2 (cs3 : List Int32) nl3 (cn2 : Int32) (cn3 : Int32) h0 n0 (OLD : Old Z n0 h0) (A' : Exa Z h0 ra0 cN6) (B' : Fld Z h0 ra0 cN0 "coder" "B" (.int 1)) (C' : Fld Z h0 ra0 cN0 "count" "I" (.int cn0)) (D' : Fld Z h0 ra0 cN0 "maybeLatin1" "Z" (.int 0)) (E' : Fld Z h0 ra0 cN0 "value" "[B" (.ref ra1)) (F' : Exa Z h0 ra1 "[B") (G' : cs3.length = nl3) (H' : Arv Z h0 ra1 kc2 .byte cn2 (own_by cs3) (.int 0)) (hn8 : ((cn3 <<< ((1 : Int32) &&& 31)) - cn2) < (cn2 + (4 : Int32))) (hn9 : (0 : Int32) < (cn2 + (cn2 + (4 : Int32)))) (hn10 : ¬ ((2147483639 : Int32) < (cn2 + (cn2 + (4 : Int32))))) (hn11 : ¬ ((cn2 + (cn2 + (4 : Int32))) = (2147483647 : Int32))) :
  own_CN l Z y30 jdk_68_method_10_code 6 (some .int) [] R19_51 #[.ref ra0, .int cn3] h0 (Q19_51 Z ra0 cn0 ra1 kc2 cs3 nl3 cn2 cn3 h0 n0) := by
 refine own_entryN (plainFor_of_name pn_5) fun p e s m below meth c s₁ hx hby hml hown hnm hret hlk hZ hh X0 e0 => ?_
 have N0 := Fr.nil n0
 rw [ef_19_46 m ra0 cn3]
 refine og s₁ (mkF m 1 #[vR ra0, vI cn3, vU, vU, vU, vU] [.ref ra0]) (fun _ k => qa X0 hx hby d19_0 rfl rfl rfl k) ?_
 obtain ⟨T1, X1, e1, st1⟩ := qf X0 hx hZ hown (ow hw 72) e0 E' (g := (mkF m 1 #[vR ra0, vI cn3, vU, vU, vU, vU] [.ref ra0])) rfl rfl hby d19_1
 refine og T1 (mkF m 4 #[vR ra0, vI cn3, vU, vU, vU, vU] [.ref ra1]) st1 ?_
 obtain ⟨cl2, Ar2, -, Sr2, Nr2, -, -⟩ := id H'
 refine og T1 (mkF m 5 #[vR ra0, vI cn3, vU, vU, vU, vU] [.int cn2]) (fun t k => X1.arraylength hx (by rw [e1]; exact Ar2.1) (State.isArrayOf_alike hZ.alike Ar2.2.1) (g := (mkF m 4 #[vR ra0, vI cn3, vU, vU, vU, vU] [.ref ra1])) rfl rfl (hb hby d19_4) t (by rw [len_of Sr2 Nr2]; exact k)) ?_
 refine og T1 (mkF m 8 #[vR ra0, vI cn3, vI cn2, vU, vU, vU] [.ref ra0, .int cn3]) (fun _ k => XS.istoreN X1.here hx rfl (hb hby d19_5) rfl (l' := #[vR ra0, vI cn3, vI cn2, vU, vU, vU]) rfl (qi X1 hx hby d19_6 rfl rfl (qa X1 hx hby d19_7 rfl rfl rfl k))) ?_
 obtain ⟨T3, X3, e3, st3⟩ := qf X1 hx hZ hown (ow hw 74) e1 B' (g := (mkF m 8 #[vR ra0, vI cn3, vI cn2, vU, vU, vU] [.ref ra0, .int cn3])) rfl rfl hby d19_8
 refine og T3 (mkF m 23 #[vR ra0, vI cn3, vI cn2, vI (cn3 <<< ((1 : Int32) &&& 31)), vI ((cn3 <<< ((1 : Int32) &&& 31)) - cn2), vU] [.int 2, .int cn2, (.int ((cn3 <<< ((1 : Int32) &&& 31)) - cn2)), .int cn2]) (fun _ k => st3 _ (XS.ishl X3.here hx rfl (hb hby d19_11) rfl (XS.istoreN X3.here hx rfl (hb hby d19_12) rfl (l' := #[vR ra0, vI cn3, vI cn2, vI (cn3 <<< ((1 : Int32) &&& 31)), vU, vU]) rfl (qi X3 hx hby d19_13 rfl rfl (qi X3 hx hby d19_14 rfl rfl (XS.isub X3.here hx rfl (hb hby d19_15) rfl (XS.istore X3.here hx rfl (hb hby d19_16) rfl (l' := #[vR ra0, vI cn3, vI cn2, vI (cn3 <<< ((1 : Int32) &&& 31)), vI ((cn3 <<< ((1 : Int32) &&& 31)) - cn2), vU]) rfl (qi X3 hx hby d19_18 rfl rfl (XS.iload X3.here hx rfl (hb hby d19_19) rfl (qi X3 hx hby d19_21 rfl rfl (qc X3 hx hby d19_22 rfl k))))))))))) ?_
 refine og T3 (mkF m 24 #[vR ra0, vI cn3, vI cn2, vI (cn3 <<< ((1 : Int32) &&& 31)), vI ((cn3 <<< ((1 : Int32) &&& 31)) - cn2), vU] [.ref ra0, .int 2, .int cn2, (.int ((cn3 <<< ((1 : Int32) &&& 31)) - cn2)), .int cn2]) (fun _ k => qa X3 hx hby d19_23 rfl rfl rfl k) ?_
 obtain ⟨T4, X4, e4, st4⟩ := qf X3 hx hZ hown (ow hw 74) e3 B' (g := (mkF m 24 #[vR ra0, vI cn3, vI cn2, vI (cn3 <<< ((1 : Int32) &&& 31)), vI ((cn3 <<< ((1 : Int32) &&& 31)) - cn2), vU] [.ref ra0, .int 2, .int cn2, (.int ((cn3 <<< ((1 : Int32) &&& 31)) - cn2)), .int cn2])) rfl rfl hby d19_24
 refine og T4 (mkF m 28 #[vR ra0, vI cn3, vI cn2, vI (cn3 <<< ((1 : Int32) &&& 31)), vI ((cn3 <<< ((1 : Int32) &&& 31)) - cn2), vU] [.int 4, .int cn2, (.int ((cn3 <<< ((1 : Int32) &&& 31)) - cn2)), .int cn2]) (fun _ k => st4 _ (XS.ishl X4.here hx rfl (hb hby d19_27) rfl (by rw [show ((2 : Int32) <<< ((1 : Int32) &&& 31)) = (4 : Int32) from by decide]; exact k))) ?_
 refine og T4 (mkF m 29 #[vR ra0, vI cn3, vI cn2, vI (cn3 <<< ((1 : Int32) &&& 31)), vI ((cn3 <<< ((1 : Int32) &&& 31)) - cn2), vU] [(.int (cn2 + (4 : Int32))), (.int ((cn3 <<< ((1 : Int32) &&& 31)) - cn2)), .int cn2]) (fun _ k => qp X4 hx hby d19_28 rfl rfl k) ?_
 obtain ⟨_, T5, L5, X5, hQ5, st5⟩ := own_tc X4 hx hZ hown (ow hw 129) (ow hw 130) (rm20_47 l Z a0 hw cn2 (((cn3 <<< ((1 : Int32) &&& 31)) - cn2)) ((cn2 + (4 : Int32))) h0 n0 OLD hn8 hn9 hn10) (ow hw 132) (ow hw 131) e4 (g := (mkF m 29 #[vR ra0, vI cn3, vI cn2, vI (cn3 <<< ((1 : Int32) &&& 31)), vI ((cn3 <<< ((1 : Int32) &&& 31)) - cn2), vU] [(.int (cn2 + (4 : Int32))), (.int ((cn3 <<< ((1 : Int32) &&& 31)) - cn2)), .int cn2])) rfl (zs hml) (argsL := [.int cn2, (.int ((cn3 <<< ((1 : Int32) &&& 31)) - cn2)), (.int (cn2 + (4 : Int32)))]) (rest := []) (lenOf pd_17 rfl) rfl (hb hby d19_29) (W := 0) rfl
 obtain ⟨rfl, Nq5, eq5⟩ := hQ5
 have N5 := Fr.app N0 Nq5
 refine og T5 (mkF m 36 #[vR ra0, vI cn3, vI cn2, vI (cn3 <<< ((1 : Int32) &&& 31)), vI ((cn3 <<< ((1 : Int32) &&& 31)) - cn2), vI (cn2 + (cn2 + (4 : Int32)))] [(.int (cn2 + (cn2 + (4 : Int32))))]) (fun _ k => st5.trans (XS.istore X5.here hx rfl (hb hby d19_32) rfl (l' := #[vR ra0, vI cn3, vI cn2, vI (cn3 <<< ((1 : Int32) &&& 31)), vI ((cn3 <<< ((1 : Int32) &&& 31)) - cn2), vI (cn2 + (cn2 + (4 : Int32)))]) rfl (XS.iload X5.here hx rfl (hb hby d19_34) rfl k))) ?_
 refine og T5 (mkF m 38 #[vR ra0, vI cn3, vI cn2, vI (cn3 <<< ((1 : Int32) &&& 31)), vI ((cn3 <<< ((1 : Int32) &&& 31)) - cn2), vI (cn2 + (cn2 + (4 : Int32)))] [.int 2147483647, (.int (cn2 + (cn2 + (4 : Int32))))]) (fun t k => X5.ldcInt hx hown (mvT hZ (ow hw 138)) (g := (mkF m 36 #[vR ra0, vI cn3, vI cn2, vI (cn3 <<< ((1 : Int32) &&& 31)), vI ((cn3 <<< ((1 : Int32) &&& 31)) - cn2), vI (cn2 + (cn2 + (4 : Int32)))] [(.int (cn2 + (cn2 + (4 : Int32))))])) rfl (hb hby d19_36) t k) ?_
 refine og T5 (mkF m 54 #[vR ra0, vI cn3, vI cn2, vI (cn3 <<< ((1 : Int32) &&& 31)), vI ((cn3 <<< ((1 : Int32) &&& 31)) - cn2), vI (cn2 + (cn2 + (4 : Int32)))] [.ref ra0, (.int (cn2 + (cn2 + (4 : Int32))))]) (fun _ k => XS.icmpYes X5.here hx rfl (pc0 := 38) (pc' := 51) rfl (hb hby d19_38) rfl (feq hn11).2 (by decide) (by decide) (XS.iload X5.here hx rfl (hb hby d19_51) rfl (qa X5 hx hby d19_53 rfl rfl rfl k))) ?_
 obtain ⟨T6, X6, e6, st6⟩ := qf X5 hx hZ hown (ow hw 74) eq5 B' (g := (mkF m 54 #[vR ra0, vI cn3, vI cn2, vI (cn3 <<< ((1 : Int32) &&& 31)), vI ((cn3 <<< ((1 : Int32) &&& 31)) - cn2), vI (cn2 + (cn2 + (4 : Int32)))] [.ref ra0, (.int (cn2 + (cn2 + (4 : Int32))))])) rfl rfl hby d19_54
 refine og T6 (mkF m 58 #[vR ra0, vI cn3, vI cn2, vI (cn3 <<< ((1 : Int32) &&& 31)), vI ((cn3 <<< ((1 : Int32) &&& 31)) - cn2), vI (cn2 + (cn2 + (4 : Int32)))] [(.int ((cn2 + (cn2 + (4 : Int32))) >>> ((1 : Int32) &&& 31)))]) (fun _ k => st6 _ (XS.ishr X6.here hx rfl (hb hby d19_57) rfl k)) ?_
 exact own_leaveN X6 hlk (v := some (.int ((cn2 + (cn2 + (4 : Int32))) >>> ((1 : Int32) &&& 31)))) (own_nr hret) (lb rfl) (lb rfl) (by rw [e6]; exact ⟨rfl, N5, rfl⟩) (fun fs hr => retI X6 hx hret (hb hby d19_58) hr)
abbrev R22_52 : Room := { frames := 1, cells := 1, slots := 400, locals := 18 }
def Q22_52 (Z : State) (ra0 : Addr) (kc1 : ClassId) (cs2 : List Int32) (nl2 : Nat) (cn1 cn2 : Int32) (h0 : Heap) (n0 : Nat) (v : Option Value) (h : Heap) (L : List Loc) : Prop := (∃ (b2 : Addr) (k2 : ClassId), v = some (.ref b2) ∧ Fr n0 L ∧ Keep h0 h [] ∧ h0.size ≤ b2 ∧ Exa Z h b2 "[B" ∧ Arv Z h b2 k2 .byte cn2 (own_by cs2) (.int 0))
theorem rm22_52 l Z a0 (hw : HW Z a0) ra0 kc1 (cs2 : List Int32) nl2 (cn1 : Int32) (cn2 : Int32) h0 n0 (OLD : Old Z n0 h0) (A' : Exa Z h0 ra0 "[B") (B' : cs2.length = nl2) (C' : Arv Z h0 ra0 kc1 .byte cn1 (own_by cs2) (.int 0)) (hn3 : ¬ (cn2 = cn1)) (hn4 : ¬ (cn2 < (0 : Int32))) (hn5 : cn2.toNatClampNeg ≤ 400) (hn6 : ¬ (cn2 < cn1)) (hn7 : ¬ (cn1 < (0 : Int32))) (hn8 : cn1.toNatClampNeg ≤ cn1.toNatClampNeg) (hn9 : (0 : Int32).toNatClampNeg + cn1.toNatClampNeg ≤ cn2.toNatClampNeg) (hn10 : nl2 ≤ cn1.toNatClampNeg) :
  own_CN l Z y32 jdk_65_method_121_code 3 (some (.array .byte)) [] R22_52 #[.ref ra0, .int cn2] h0 (Q22_52 Z ra0 kc1 cs2 nl2 cn1 cn2 h0 n0) := by
 refine own_entryN (plainFor_of_name pn_9) fun p e s m below meth c s₁ hx hby hml hown hnm hret hlk hZ hh X0 e0 => ?_
 have N0 := Fr.nil n0
 rw [ef_15_19 m ra0 cn2]
 refine og s₁ (mkF m 2 #[vR ra0, vI cn2, vU] [.ref ra0, .int cn2]) (fun _ k => qi X0 hx hby d22_0 rfl rfl (qa X0 hx hby d22_1 rfl rfl rfl k)) ?_
 obtain ⟨cl1, Ar1, -, Sr1, Nr1, -, -⟩ := id C'
 refine og s₁ (mkF m 3 #[vR ra0, vI cn2, vU] [.int cn1, .int cn2]) (fun t k => X0.arraylength hx (by rw [e0]; exact Ar1.1) (State.isArrayOf_alike hZ.alike Ar1.2.1) (g := (mkF m 2 #[vR ra0, vI cn2, vU] [.ref ra0, .int cn2])) rfl rfl (hb hby d22_2) t (by rw [len_of Sr1 Nr1]; exact k)) ?_
 refine og s₁ (mkF m 15 #[vR ra0, vI cn2, vU] [.int cn2]) (fun _ k => XS.icmpYes X0.here hx rfl (pc0 := 3) (pc' := 14) rfl (hb hby d22_3) rfl (feq hn3).2 (by decide) (by decide) (qi X0 hx hby d22_14 rfl rfl k)) ?_
 obtain ⟨T2, h2, k2, X2, e2, E2, A2, Ea2, st2⟩ := newPE X0 hx hZ (ow hw 17) e0 (g := (mkF m 15 #[vR ra0, vI cn2, vU] [.int cn2])) rfl (hb hby d22_15) rfl hn4 (cap := 400) hn5 (lb rfl) (lb rfl) (lb rfl) (ad := "[B") (by decide)
 obtain ⟨b2, gb2⟩ : ∃ z, z = h0.size := ⟨_, rfl⟩
 rw [← gb2] at A2 Ea2 st2
 have g3 : n0 ≤ b2 := Nat.le_trans (own_osz OLD) (Nat.le_of_eq gb2.symm)
 have z4 : h0.size ≤ b2 := Nat.le_trans (Nat.le_refl _) (Nat.le_of_eq gb2.symm)
 have V2 : Arv Z h2 b2 k2 .byte cn2 (own_by ([] : List Int32)) (.int 0) := Arv.new A2 hn4
 refine og T2 (mkF m 23 #[vR ra0, vI cn2, vR b2] [.ref ra0, .int 0, .ref b2, .int 0, .ref ra0]) (fun _ k => st2 _ (XS.astoreN X2.here hx rfl (hb hby d22_17) rfl rfl (l' := #[vR ra0, vI cn2, vR b2]) rfl (qa X2 hx hby d22_18 rfl rfl rfl (qc X2 hx hby d22_19 rfl (qa X2 hx hby d22_20 rfl rfl rfl (qc X2 hx hby d22_21 rfl (qa X2 hx hby d22_22 rfl rfl rfl k))))))) ?_
 have F5 := (C'.ext E2)
 obtain ⟨cl6, Ar6, -, Sr6, Nr6, -, -⟩ := id F5
 refine og T2 (mkF m 24 #[vR ra0, vI cn2, vR b2] [.int cn1, .int 0, .ref b2, .int 0, .ref ra0]) (fun t k => X2.arraylength hx (by rw [e2]; exact Ar6.1) (State.isArrayOf_alike hZ.alike Ar6.2.1) (g := (mkF m 23 #[vR ra0, vI cn2, vR b2] [.ref ra0, .int 0, .ref b2, .int 0, .ref ra0])) rfl rfl (hb hby d22_23) t (by rw [len_of Sr6 Nr6]; exact k)) ?_
 refine og T2 (mkF m 25 #[vR ra0, vI cn2, vR b2] [.int cn2, .int cn1, .int 0, .ref b2, .int 0, .ref ra0]) (fun _ k => qi X2 hx hby d22_24 rfl rfl k) ?_
 have F7 := (OLD.ext E2)
 obtain ⟨_, T8, L8, X8, hQ8, st8⟩ := own_tc X2 hx hZ hown (ow hw 143) (ow hw 144) (rm23_50 l Z a0 hw cn1 cn2 h2 n0 F7 hn6) (ow hw 145) (ow hw 135) e2 (g := (mkF m 25 #[vR ra0, vI cn2, vR b2] [.int cn2, .int cn1, .int 0, .ref b2, .int 0, .ref ra0])) rfl (zs hml) (argsL := [.int cn1, .int cn2]) (rest := [.int 0, .ref b2, .int 0, .ref ra0]) (lenOf pd_23 rfl) rfl (hb hby d22_25) (W := 4) rfl
 obtain ⟨rfl, Nq8, eq8⟩ := hQ8
 have N8 := Fr.app N0 Nq8
 refine ot T8 (mkF m 28 #[vR ra0, vI cn2, vR b2] [.int cn1, .int 0, .ref b2, .int 0, .ref ra0]) st8 ?_
 obtain ⟨T9, h9, L9, X9, e9, N9, K9, Vq9, st9⟩ := own_cpB X8 hx hZ hown (ow hw 146) (ow hw 122) (ow hw 120) (ow hw 121) eq8 F5 V2 (sp := (0 : Int32)) (dp := (0 : Int32)) (nn := cn1) rfl (by decide : ¬ ((0 : Int32) < (0 : Int32))) hn7 hn8 hn9 (Eq.trans rfl (Eq.symm (by decide : (0 : Int32).toNatClampNeg = 0))) (Nat.le_trans (Nat.le_of_eq B') hn10) N8 g3 (g := (mkF m 28 #[vR ra0, vI cn2, vR b2] [.int cn1, .int 0, .ref b2, .int 0, .ref ra0])) rfl (zs hml) rfl (hb hby d22_28) (lb rfl) (W := 0) (lb rfl) (lb rfl)
 have V9 : Arv Z h9 b2 k2 .byte cn2 (own_by cs2) (.int 0) := (by simpa using Vq9)
 refine og T9 (mkF m 32 #[vR ra0, vI cn2, vR b2] [.ref b2]) (fun _ k => st9 _ (qa X9 hx hby d22_31 rfl rfl rfl k)) ?_
 have F10 := (Ea2.keep K9)
 have KEEP := (((Keep.refl h0 []).ext E2).trans K9 (allS (Or.inr z4) all0))
 exact own_leaveN X9 hlk (v := some (.ref b2)) (own_nr hret) (lb rfl) (lb rfl) (by rw [e9]; exact ⟨b2, k2, rfl, N9, KEEP, z4, F10, V9⟩) (own_ra X9 hx hret rfl rfl rfl (hb hby d22_32))
abbrev R15_45 : Room := { frames := 3, cells := 1, slots := 400, locals := 48 }
def Q15_45 (Z : State) (sb ta : Addr) (cs : List Int32) (cn K : Int32) (mn K2 : Int32) (h0 : Heap) (n0 : Nat) (v : Option Value) (h : Heap) (L : List Loc) : Prop := (∃ (eq0 : Addr) (eq1 : ClassId), v = none ∧ Fr n0 L ∧ Keep h0 h [sb] ∧ h0.size ≤ eq0 ∧ own_sb Z h sb eq0 cs cn K2 ∧ Fld Z h sb cN0 "count" "I" (.int cn))
abbrev C15_45 (cn : Int32) (K : Int32) (mn : Int32) (K2 : Int32) : Prop := ((0 : Int32) < (mn - (K >>> ((0 : Int32) &&& 31)))) ∧ (((mn <<< ((0 : Int32) &&& 31)) - K) < (K + (2 : Int32))) ∧ ((0 : Int32) < (K + (K + (2 : Int32)))) ∧ (¬ ((2147483639 : Int32) < (K + (K + (2 : Int32))))) ∧ (¬ ((K + (K + (2 : Int32))) = (2147483647 : Int32))) ∧ (¬ ((((K + (K + (2 : Int32))) >>> ((0 : Int32) &&& 31)) <<< ((0 : Int32) &&& 31)) = K)) ∧ (¬ ((((K + (K + (2 : Int32))) >>> ((0 : Int32) &&& 31)) <<< ((0 : Int32) &&& 31)) < (0 : Int32))) ∧ ((((K + (K + (2 : Int32))) >>> ((0 : Int32) &&& 31)) <<< ((0 : Int32) &&& 31)).toNatClampNeg ≤ 400) ∧ (¬ ((((K + (K + (2 : Int32))) >>> ((0 : Int32) &&& 31)) <<< ((0 : Int32) &&& 31)) < K)) ∧ (¬ (K < (0 : Int32))) ∧ (K.toNatClampNeg ≤ K.toNatClampNeg) ∧ ((0 : Int32).toNatClampNeg + K.toNatClampNeg ≤ (((K + (K + (2 : Int32))) >>> ((0 : Int32) &&& 31)) <<< ((0 : Int32) &&& 31)).toNatClampNeg) ∧ (cn.toNatClampNeg ≤ K.toNatClampNeg) ∧ ((((K + (K + (2 : Int32))) >>> ((0 : Int32) &&& 31)) <<< ((0 : Int32) &&& 31)) = K2) ∧ ((0 : Int32) < (mn - ((K <<< ((1 : Int32) &&& 31)) >>> ((1 : Int32) &&& 31)))) ∧ (((mn <<< ((1 : Int32) &&& 31)) - (K <<< ((1 : Int32) &&& 31))) < ((K <<< ((1 : Int32) &&& 31)) + (4 : Int32))) ∧ ((0 : Int32) < ((K <<< ((1 : Int32) &&& 31)) + ((K <<< ((1 : Int32) &&& 31)) + (4 : Int32)))) ∧ (¬ ((2147483639 : Int32) < ((K <<< ((1 : Int32) &&& 31)) + ((K <<< ((1 : Int32) &&& 31)) + (4 : Int32))))) ∧ (¬ (((K <<< ((1 : Int32) &&& 31)) + ((K <<< ((1 : Int32) &&& 31)) + (4 : Int32))) = (2147483647 : Int32))) ∧ (¬ (((((K <<< ((1 : Int32) &&& 31)) + ((K <<< ((1 : Int32) &&& 31)) + (4 : Int32))) >>> ((1 : Int32) &&& 31)) <<< ((1 : Int32) &&& 31)) = (K <<< ((1 : Int32) &&& 31)))) ∧ (¬ (((((K <<< ((1 : Int32) &&& 31)) + ((K <<< ((1 : Int32) &&& 31)) + (4 : Int32))) >>> ((1 : Int32) &&& 31)) <<< ((1 : Int32) &&& 31)) < (0 : Int32))) ∧ (((((K <<< ((1 : Int32) &&& 31)) + ((K <<< ((1 : Int32) &&& 31)) + (4 : Int32))) >>> ((1 : Int32) &&& 31)) <<< ((1 : Int32) &&& 31)).toNatClampNeg ≤ 400) ∧ (¬ (((((K <<< ((1 : Int32) &&& 31)) + ((K <<< ((1 : Int32) &&& 31)) + (4 : Int32))) >>> ((1 : Int32) &&& 31)) <<< ((1 : Int32) &&& 31)) < (K <<< ((1 : Int32) &&& 31)))) ∧ (¬ ((K <<< ((1 : Int32) &&& 31)) < (0 : Int32))) ∧ ((K <<< ((1 : Int32) &&& 31)).toNatClampNeg ≤ (K <<< ((1 : Int32) &&& 31)).toNatClampNeg) ∧ ((0 : Int32).toNatClampNeg + (K <<< ((1 : Int32) &&& 31)).toNatClampNeg ≤ ((((K <<< ((1 : Int32) &&& 31)) + ((K <<< ((1 : Int32) &&& 31)) + (4 : Int32))) >>> ((1 : Int32) &&& 31)) <<< ((1 : Int32) &&& 31)).toNatClampNeg) ∧ ((2 * cn.toNatClampNeg) ≤ (K <<< ((1 : Int32) &&& 31)).toNatClampNeg) ∧ (((((K <<< ((1 : Int32) &&& 31)) + ((K <<< ((1 : Int32) &&& 31)) + (4 : Int32))) >>> ((1 : Int32) &&& 31)) <<< ((1 : Int32) &&& 31)) = (K2 <<< ((1 : Int32) &&& 31)))
theorem rm15_45 l Z a0 (hw : HW Z a0) sb ta (cs : List Int32) (cn : Int32) (K : Int32) (mn : Int32) (K2 : Int32) h0 n0 (OLD : Old Z n0 h0) (S_sb : own_sb Z h0 sb ta cs cn K) (A' : Fld Z h0 sb cN0 "count" "I" (.int cn)) (ge_sb : n0 ≤ sb) (hC : C15_45 cn K mn K2) :
  own_CN l Z y12 jdk_68_method_9_code 3 none [] R15_45 #[.ref sb, .int mn] h0 (Q15_45 Z sb ta cs cn K mn K2 h0 n0) := by
 refine own_entryN (plainFor_of_name pn_5) fun p e s m below meth c s₁ hx hby hml hown hnm hret hlk hZ hh X0 e0 => ?_
 obtain ⟨hn2, hn3, hn4, hn5, hn6, hn7, hn8, hn9, hn10, hn11, hn12, hn13, hn14, hn16, hn17, hn18, hn19, hn20, hn21, hn22, hn23, hn24, hn25, hn26, hn27, hn28, hn29, hn30⟩ := hC
 have N0 := Fr.nil n0
 rw [ef_15_19 m sb mn]
 obtain ⟨kc1, ⟨Fc1, Vc1, lc1⟩ | ⟨Fc1, Vc1, lc1⟩⟩ := S_sb.2.2.2.2.2
 ·
  refine og s₁ (mkF m 1 #[vR sb, vI mn, vU] [.ref sb]) (fun _ k => qa X0 hx hby d15_0 rfl rfl rfl k) ?_
  obtain ⟨T2, X2, e2, st2⟩ := getF X0 hx hZ hown (host := "") (Or.inl (ow hw 72)) Via.refl e0 S_sb.2.1 (g := (mkF m 1 #[vR sb, vI mn, vU] [.ref sb])) rfl rfl (hb hby d15_1)
  refine og T2 (mkF m 4 #[vR sb, vI mn, vU] [.ref ta]) st2 ?_
  obtain ⟨cl3, Ar3, -, Sr3, Nr3, -, -⟩ := id Vc1
  refine og T2 (mkF m 5 #[vR sb, vI mn, vU] [.int K]) (fun t k => X2.arraylength hx (by rw [e2]; exact Ar3.1) (State.isArrayOf_alike hZ.alike Ar3.2.1) (g := (mkF m 4 #[vR sb, vI mn, vU] [.ref ta])) rfl rfl (hb hby d15_4) t (by rw [len_of Sr3 Nr3]; exact k)) ?_
  refine og T2 (mkF m 6 #[vR sb, vI mn, vU] [.ref sb, .int K]) (fun _ k => qa X2 hx hby d15_5 rfl rfl rfl k) ?_
  obtain ⟨T4, X4, e4, st4⟩ := qf X2 hx hZ hown (ow hw 74) e2 Fc1 (g := (mkF m 6 #[vR sb, vI mn, vU] [.ref sb, .int K])) rfl rfl hby d15_6
  refine og T4 (mkF m 19 #[vR sb, vI mn, vI (K >>> ((0 : Int32) &&& 31))] [.ref sb, .ref sb]) (fun _ k => st4 _ (XS.ishr X4.here hx rfl (hb hby d15_9) rfl (XS.istoreN X4.here hx rfl (hb hby d15_10) rfl (l' := #[vR sb, vI mn, vI (K >>> ((0 : Int32) &&& 31))]) rfl (qi X4 hx hby d15_11 rfl rfl (qi X4 hx hby d15_12 rfl rfl (XS.isub X4.here hx rfl (hb hby d15_13) rfl (XS.ifNo X4.here hx rfl (hb hby d15_14) rfl ((if0 _ _).trans (tlt hn2).2.2.2) (qa X4 hx hby d15_17 rfl rfl rfl (qa X4 hx hby d15_18 rfl rfl rfl k))))))))) ?_
  obtain ⟨T5, X5, e5, st5⟩ := getF X4 hx hZ hown (host := "") (Or.inl (ow hw 72)) Via.refl e4 S_sb.2.1 (g := (mkF m 19 #[vR sb, vI mn, vI (K >>> ((0 : Int32) &&& 31))] [.ref sb, .ref sb])) rfl rfl (hb hby d15_19)
  refine og T5 (mkF m 24 #[vR sb, vI mn, vI (K >>> ((0 : Int32) &&& 31))] [.int mn, .ref sb, .ref ta, .ref sb]) (fun _ k => st5 _ (qa X5 hx hby d15_22 rfl rfl rfl (qi X5 hx hby d15_23 rfl rfl k))) ?_
  obtain ⟨_, T6, L6, X6, hQ6, st6⟩ := own_pc X5 hx hZ hown (ow hw 124) (ow hw 127) (ow hw 125) (ow hw 126) S_sb.1 (rm19_46 l Z a0 hw sb cn ta kc1 cs (cn.toNatClampNeg) K mn h0 n0 OLD S_sb.1 Fc1 A' S_sb.2.2.1 S_sb.2.1 S_sb.2.2.2.1 (S_sb.2.2.2.2.1) lc1 Vc1 hn3 hn4 hn5 hn6) (ow hw 128) (ow hw 68) e5 (g := (mkF m 24 #[vR sb, vI mn, vI (K >>> ((0 : Int32) &&& 31))] [.int mn, .ref sb, .ref ta, .ref sb])) rfl (zs hml) (argsL := [.int mn]) (rest := [.ref ta, .ref sb]) (lenOf pd_13 rfl) rfl (hb hby d15_24) (W := 2) rfl
  obtain ⟨rfl, Nq6, eq6⟩ := hQ6
  have N6 := Fr.app N0 Nq6
  refine og T6 (mkF m 28 #[vR sb, vI mn, vI (K >>> ((0 : Int32) &&& 31))] [.ref sb, (.int ((K + (K + (2 : Int32))) >>> ((0 : Int32) &&& 31))), .ref ta, .ref sb]) (fun _ k => st6.trans (qa X6 hx hby d15_27 rfl rfl rfl k)) ?_
  obtain ⟨T7, X7, e7, st7⟩ := qf X6 hx hZ hown (ow hw 74) eq6 Fc1 (g := (mkF m 28 #[vR sb, vI mn, vI (K >>> ((0 : Int32) &&& 31))] [.ref sb, (.int ((K + (K + (2 : Int32))) >>> ((0 : Int32) &&& 31))), .ref ta, .ref sb])) rfl rfl hby d15_28
  refine og T7 (mkF m 32 #[vR sb, vI mn, vI (K >>> ((0 : Int32) &&& 31))] [(.int (((K + (K + (2 : Int32))) >>> ((0 : Int32) &&& 31)) <<< ((0 : Int32) &&& 31))), .ref ta, .ref sb]) (fun _ k => st7 _ (XS.ishl X7.here hx rfl (hb hby d15_31) rfl k)) ?_
  obtain ⟨_, T8, L8, X8, hQ8, st8⟩ := own_tc X7 hx hZ hown (ow hw 139) (ow hw 140) (rm22_49 l Z a0 hw ta kc1 cs (cn.toNatClampNeg) K ((((K + (K + (2 : Int32))) >>> ((0 : Int32) &&& 31)) <<< ((0 : Int32) &&& 31))) h0 n0 OLD S_sb.2.2.2.1 (S_sb.2.2.2.2.1) lc1 Vc1 hn7 hn8 hn9 hn10 hn11 hn12 hn13 hn14) (ow hw 142) (ow hw 141) e7 (g := (mkF m 32 #[vR sb, vI mn, vI (K >>> ((0 : Int32) &&& 31))] [(.int (((K + (K + (2 : Int32))) >>> ((0 : Int32) &&& 31)) <<< ((0 : Int32) &&& 31))), .ref ta, .ref sb])) rfl (zs hml) (argsL := [.ref ta, (.int (((K + (K + (2 : Int32))) >>> ((0 : Int32) &&& 31)) <<< ((0 : Int32) &&& 31)))]) (rest := [.ref sb]) (lenOf pd_24 rfl) rfl (hb hby d15_32) (W := 1) rfl
  obtain ⟨o9, kc10, rfl, Nq8, K8, f11, f12, f13⟩ := hQ8
  have N8 := Fr.app N6 Nq8
  have g14 : n0 ≤ o9 := Nat.le_trans (own_osz OLD) f11
  have z15 : h0.size ≤ o9 := Nat.le_trans (Nat.le_refl _) f11
  refine ot T8 (mkF m 35 #[vR sb, vI mn, vI (K >>> ((0 : Int32) &&& 31))] [.ref o9, .ref sb]) st8 ?_
  have F16 := (S_sb.1.keep K8)
  have F17 := (S_sb.2.1.keep K8 nin0)
  obtain ⟨T18, h18, X18, e18, W18, st18⟩ := putF X8 hx hZ hown (host := "") (Or.inl (ow hw 72)) Via.refl rfl F17 F16 (Or.inl (ow hw 73)) (ow hw 59) (ty := (.array .byte)) (by decide) rfl rfl (g := (mkF m 35 #[vR sb, vI mn, vI (K >>> ((0 : Int32) &&& 31))] [.ref o9, .ref sb])) rfl rfl (hb hby d15_35)
  have Fw18 := F17.same W18
  have N18 := Fr.snoc X18 N8 ge_sb
  refine og T18 (mkF m 38 #[vR sb, vI mn, vI (K >>> ((0 : Int32) &&& 31))] []) st18 ?_
  have F19 := (f13.other W18 (Ne.symm (own_ne_lo S_sb.lt f11)))
  have F21 := (F16.wr W18)
  have F22 := ((S_sb.2.2.1.keep K8 nin0).other W18 (Or.inr (slot_ne (Or.inl (ow hw 368)) (Or.inl (ow hw 73)) (by decide) (t := .boolean) (t' := (.array .byte)) (by decide) (by decide))))
  have F23 := (f12.wr W18)
  have F24 := ((Fc1.keep K8 nin0).other W18 (Or.inr (slot_ne (Or.inl (ow hw 75)) (Or.inl (ow hw 73)) (by decide) (t := .byte) (t' := (.array .byte)) (by decide) (by decide))))
  have S20 : own_sb Z h18 sb o9 cs cn K2 := own_sbL F21 Fw18 F22 F23 (S_sb.2.2.2.2.1) F24 (own_castz hn16 F19) lc1
  have F25 := ((A'.keep K8 nin0).other W18 (Or.inr (slot_ne (Or.inl (ow hw 97)) (Or.inl (ow hw 73)) (by decide) (t := .int) (t' := (.array .byte)) (by decide) (by decide))))
  have KEEP := (((Keep.refl h0 [sb]).trans K8 all0).wr W18 (Or.inl (List.mem_of_getElem? (i := 0) rfl)))
  exact own_leaveN X18 hlk (v := none) (fun _ => rfl) (lb rfl) (lb rfl) (by rw [e18]; exact ⟨o9, kc10, rfl, N18, KEEP, z15, S20, F25⟩) (fun fs hr => X18.returnOut hx hret (hb hby d15_38) hr)
 ·
  refine og s₁ (mkF m 1 #[vR sb, vI mn, vU] [.ref sb]) (fun _ k => qa X0 hx hby d15_0 rfl rfl rfl k) ?_
  obtain ⟨T26, X26, e26, st26⟩ := getF X0 hx hZ hown (host := "") (Or.inl (ow hw 72)) Via.refl e0 S_sb.2.1 (g := (mkF m 1 #[vR sb, vI mn, vU] [.ref sb])) rfl rfl (hb hby d15_1)
  refine og T26 (mkF m 4 #[vR sb, vI mn, vU] [.ref ta]) st26 ?_
  obtain ⟨cl27, Ar27, -, Sr27, Nr27, -, -⟩ := id Vc1
  refine og T26 (mkF m 5 #[vR sb, vI mn, vU] [(.int (K <<< ((1 : Int32) &&& 31)))]) (fun t k => X26.arraylength hx (by rw [e26]; exact Ar27.1) (State.isArrayOf_alike hZ.alike Ar27.2.1) (g := (mkF m 4 #[vR sb, vI mn, vU] [.ref ta])) rfl rfl (hb hby d15_4) t (by rw [len_of Sr27 Nr27]; exact k)) ?_
  refine og T26 (mkF m 6 #[vR sb, vI mn, vU] [.ref sb, (.int (K <<< ((1 : Int32) &&& 31)))]) (fun _ k => qa X26 hx hby d15_5 rfl rfl rfl k) ?_
  obtain ⟨T28, X28, e28, st28⟩ := qf X26 hx hZ hown (ow hw 74) e26 Fc1 (g := (mkF m 6 #[vR sb, vI mn, vU] [.ref sb, (.int (K <<< ((1 : Int32) &&& 31)))])) rfl rfl hby d15_6
  refine og T28 (mkF m 19 #[vR sb, vI mn, vI ((K <<< ((1 : Int32) &&& 31)) >>> ((1 : Int32) &&& 31))] [.ref sb, .ref sb]) (fun _ k => st28 _ (XS.ishr X28.here hx rfl (hb hby d15_9) rfl (XS.istoreN X28.here hx rfl (hb hby d15_10) rfl (l' := #[vR sb, vI mn, vI ((K <<< ((1 : Int32) &&& 31)) >>> ((1 : Int32) &&& 31))]) rfl (qi X28 hx hby d15_11 rfl rfl (qi X28 hx hby d15_12 rfl rfl (XS.isub X28.here hx rfl (hb hby d15_13) rfl (XS.ifNo X28.here hx rfl (hb hby d15_14) rfl ((if0 _ _).trans (tlt hn17).2.2.2) (qa X28 hx hby d15_17 rfl rfl rfl (qa X28 hx hby d15_18 rfl rfl rfl k))))))))) ?_
  obtain ⟨T29, X29, e29, st29⟩ := getF X28 hx hZ hown (host := "") (Or.inl (ow hw 72)) Via.refl e28 S_sb.2.1 (g := (mkF m 19 #[vR sb, vI mn, vI ((K <<< ((1 : Int32) &&& 31)) >>> ((1 : Int32) &&& 31))] [.ref sb, .ref sb])) rfl rfl (hb hby d15_19)
  refine og T29 (mkF m 24 #[vR sb, vI mn, vI ((K <<< ((1 : Int32) &&& 31)) >>> ((1 : Int32) &&& 31))] [.int mn, .ref sb, .ref ta, .ref sb]) (fun _ k => st29 _ (qa X29 hx hby d15_22 rfl rfl rfl (qi X29 hx hby d15_23 rfl rfl k))) ?_
  obtain ⟨_, T30, L30, X30, hQ30, st30⟩ := own_pc X29 hx hZ hown (ow hw 124) (ow hw 127) (ow hw 125) (ow hw 126) S_sb.1 (rm19_51 l Z a0 hw sb cn ta kc1 ((own_u cs)) ((2 * cn.toNatClampNeg)) ((K <<< ((1 : Int32) &&& 31))) mn h0 n0 OLD S_sb.1 Fc1 A' S_sb.2.2.1 S_sb.2.1 S_sb.2.2.2.1 (own_ul (S_sb.2.2.2.2.1)) Vc1 hn18 hn19 hn20 hn21) (ow hw 128) (ow hw 68) e29 (g := (mkF m 24 #[vR sb, vI mn, vI ((K <<< ((1 : Int32) &&& 31)) >>> ((1 : Int32) &&& 31))] [.int mn, .ref sb, .ref ta, .ref sb])) rfl (zs hml) (argsL := [.int mn]) (rest := [.ref ta, .ref sb]) (lenOf pd_13 rfl) rfl (hb hby d15_24) (W := 2) rfl
  obtain ⟨rfl, Nq30, eq30⟩ := hQ30
  have N30 := Fr.app N0 Nq30
  refine og T30 (mkF m 28 #[vR sb, vI mn, vI ((K <<< ((1 : Int32) &&& 31)) >>> ((1 : Int32) &&& 31))] [.ref sb, (.int (((K <<< ((1 : Int32) &&& 31)) + ((K <<< ((1 : Int32) &&& 31)) + (4 : Int32))) >>> ((1 : Int32) &&& 31))), .ref ta, .ref sb]) (fun _ k => st30.trans (qa X30 hx hby d15_27 rfl rfl rfl k)) ?_
  obtain ⟨T31, X31, e31, st31⟩ := qf X30 hx hZ hown (ow hw 74) eq30 Fc1 (g := (mkF m 28 #[vR sb, vI mn, vI ((K <<< ((1 : Int32) &&& 31)) >>> ((1 : Int32) &&& 31))] [.ref sb, (.int (((K <<< ((1 : Int32) &&& 31)) + ((K <<< ((1 : Int32) &&& 31)) + (4 : Int32))) >>> ((1 : Int32) &&& 31))), .ref ta, .ref sb])) rfl rfl hby d15_28
  refine og T31 (mkF m 32 #[vR sb, vI mn, vI ((K <<< ((1 : Int32) &&& 31)) >>> ((1 : Int32) &&& 31))] [(.int ((((K <<< ((1 : Int32) &&& 31)) + ((K <<< ((1 : Int32) &&& 31)) + (4 : Int32))) >>> ((1 : Int32) &&& 31)) <<< ((1 : Int32) &&& 31))), .ref ta, .ref sb]) (fun _ k => st31 _ (XS.ishl X31.here hx rfl (hb hby d15_31) rfl k)) ?_
  obtain ⟨_, T32, L32, X32, hQ32, st32⟩ := own_tc X31 hx hZ hown (ow hw 139) (ow hw 140) (rm22_52 l Z a0 hw ta kc1 ((own_u cs)) ((2 * cn.toNatClampNeg)) ((K <<< ((1 : Int32) &&& 31))) (((((K <<< ((1 : Int32) &&& 31)) + ((K <<< ((1 : Int32) &&& 31)) + (4 : Int32))) >>> ((1 : Int32) &&& 31)) <<< ((1 : Int32) &&& 31))) h0 n0 OLD S_sb.2.2.2.1 (own_ul (S_sb.2.2.2.2.1)) Vc1 hn22 hn23 hn24 hn25 hn26 hn27 hn28 hn29) (ow hw 142) (ow hw 141) e31 (g := (mkF m 32 #[vR sb, vI mn, vI ((K <<< ((1 : Int32) &&& 31)) >>> ((1 : Int32) &&& 31))] [(.int ((((K <<< ((1 : Int32) &&& 31)) + ((K <<< ((1 : Int32) &&& 31)) + (4 : Int32))) >>> ((1 : Int32) &&& 31)) <<< ((1 : Int32) &&& 31))), .ref ta, .ref sb])) rfl (zs hml) (argsL := [.ref ta, (.int ((((K <<< ((1 : Int32) &&& 31)) + ((K <<< ((1 : Int32) &&& 31)) + (4 : Int32))) >>> ((1 : Int32) &&& 31)) <<< ((1 : Int32) &&& 31)))]) (rest := [.ref sb]) (lenOf pd_24 rfl) rfl (hb hby d15_32) (W := 1) rfl
  obtain ⟨o33, kc34, rfl, Nq32, K32, f35, f36, f37⟩ := hQ32
  have N32 := Fr.app N30 Nq32
  have g38 : n0 ≤ o33 := Nat.le_trans (own_osz OLD) f35
  have z39 : h0.size ≤ o33 := Nat.le_trans (Nat.le_refl _) f35
  refine ot T32 (mkF m 35 #[vR sb, vI mn, vI ((K <<< ((1 : Int32) &&& 31)) >>> ((1 : Int32) &&& 31))] [.ref o33, .ref sb]) st32 ?_
  have F40 := (S_sb.1.keep K32)
  have F41 := (S_sb.2.1.keep K32 nin0)
  obtain ⟨T42, h42, X42, e42, W42, st42⟩ := putF X32 hx hZ hown (host := "") (Or.inl (ow hw 72)) Via.refl rfl F41 F40 (Or.inl (ow hw 73)) (ow hw 59) (ty := (.array .byte)) (by decide) rfl rfl (g := (mkF m 35 #[vR sb, vI mn, vI ((K <<< ((1 : Int32) &&& 31)) >>> ((1 : Int32) &&& 31))] [.ref o33, .ref sb])) rfl rfl (hb hby d15_35)
  have Fw42 := F41.same W42
  have N42 := Fr.snoc X42 N32 ge_sb
  refine og T42 (mkF m 38 #[vR sb, vI mn, vI ((K <<< ((1 : Int32) &&& 31)) >>> ((1 : Int32) &&& 31))] []) st42 ?_
  have F43 := (f37.other W42 (Ne.symm (own_ne_lo S_sb.lt f35)))
  have F45 := (F40.wr W42)
  have F46 := ((S_sb.2.2.1.keep K32 nin0).other W42 (Or.inr (slot_ne (Or.inl (ow hw 368)) (Or.inl (ow hw 73)) (by decide) (t := .boolean) (t' := (.array .byte)) (by decide) (by decide))))
  have F47 := (f36.wr W42)
  have F48 := ((Fc1.keep K32 nin0).other W42 (Or.inr (slot_ne (Or.inl (ow hw 75)) (Or.inl (ow hw 73)) (by decide) (t := .byte) (t' := (.array .byte)) (by decide) (by decide))))
  have S44 : own_sb Z h42 sb o33 cs cn K2 := own_sbU F45 Fw42 F46 F47 (S_sb.2.2.2.2.1) F48 (own_castz hn30 F43) lc1
  have F49 := ((A'.keep K32 nin0).other W42 (Or.inr (slot_ne (Or.inl (ow hw 97)) (Or.inl (ow hw 73)) (by decide) (t := .int) (t' := (.array .byte)) (by decide) (by decide))))
  have KEEP := (((Keep.refl h0 [sb]).trans K32 all0).wr W42 (Or.inl (List.mem_of_getElem? (i := 0) rfl)))
  exact own_leaveN X42 hlk (v := none) (fun _ => rfl) (lb rfl) (lb rfl) (by rw [e42]; exact ⟨o33, kc34, rfl, N42, KEEP, z39, S44, F49⟩) (fun fs hr => X42.returnOut hx hret (hb hby d15_38) hr)
abbrev R12_44 : Room := { frames := 8, cells := 2, slots := 800, locals := 116 }
def Q12_44 (Z : State) (sb ta : Addr) (cs : List Int32) (cn K : Int32) (sx bx : Addr) (ds : List Int32) (cm n2 : Int32) (K2 G1 : Int32) (G3 : Value) (h0 : Heap) (n0 : Nat) (v : Option Value) (h : Heap) (L : List Loc) : Prop := (∃ (eq0 : Addr), v = some (.ref sb) ∧ Fr n0 L ∧ Keep h0 h [sb] ∧ h0.size ≤ eq0 ∧ own_sb Z h sb eq0 (cs ++ ds) n2 K2 ∧ Fld Z h sb cN0 "count" "I" (.int (cn + cm)))
abbrev C12_44 (cn : Int32) (K : Int32) (cm : Int32) (n2 : Int32) (K2 : Int32) : Prop := ((cm >>> ((0 : Int32) &&& 31)) = cm) ∧ (((cm <<< ((1 : Int32) &&& 31)) >>> ((1 : Int32) &&& 31)) = cm) ∧ ((0 : Int32) < ((cn + cm) - (K >>> ((0 : Int32) &&& 31)))) ∧ ((((cn + cm) <<< ((0 : Int32) &&& 31)) - K) < (K + (2 : Int32))) ∧ ((0 : Int32) < (K + (K + (2 : Int32)))) ∧ (¬ ((2147483639 : Int32) < (K + (K + (2 : Int32))))) ∧ (¬ ((K + (K + (2 : Int32))) = (2147483647 : Int32))) ∧ (¬ ((((K + (K + (2 : Int32))) >>> ((0 : Int32) &&& 31)) <<< ((0 : Int32) &&& 31)) = K)) ∧ (¬ ((((K + (K + (2 : Int32))) >>> ((0 : Int32) &&& 31)) <<< ((0 : Int32) &&& 31)) < (0 : Int32))) ∧ ((((K + (K + (2 : Int32))) >>> ((0 : Int32) &&& 31)) <<< ((0 : Int32) &&& 31)).toNatClampNeg ≤ 400) ∧ (¬ ((((K + (K + (2 : Int32))) >>> ((0 : Int32) &&& 31)) <<< ((0 : Int32) &&& 31)) < K)) ∧ (¬ (K < (0 : Int32))) ∧ (K.toNatClampNeg ≤ K.toNatClampNeg) ∧ ((0 : Int32).toNatClampNeg + K.toNatClampNeg ≤ (((K + (K + (2 : Int32))) >>> ((0 : Int32) &&& 31)) <<< ((0 : Int32) &&& 31)).toNatClampNeg) ∧ (cn.toNatClampNeg ≤ K.toNatClampNeg) ∧ ((((K + (K + (2 : Int32))) >>> ((0 : Int32) &&& 31)) <<< ((0 : Int32) &&& 31)) = K2) ∧ ((0 : Int32) < ((cn + cm) - ((K <<< ((1 : Int32) &&& 31)) >>> ((1 : Int32) &&& 31)))) ∧ ((((cn + cm) <<< ((1 : Int32) &&& 31)) - (K <<< ((1 : Int32) &&& 31))) < ((K <<< ((1 : Int32) &&& 31)) + (4 : Int32))) ∧ ((0 : Int32) < ((K <<< ((1 : Int32) &&& 31)) + ((K <<< ((1 : Int32) &&& 31)) + (4 : Int32)))) ∧ (¬ ((2147483639 : Int32) < ((K <<< ((1 : Int32) &&& 31)) + ((K <<< ((1 : Int32) &&& 31)) + (4 : Int32))))) ∧ (¬ (((K <<< ((1 : Int32) &&& 31)) + ((K <<< ((1 : Int32) &&& 31)) + (4 : Int32))) = (2147483647 : Int32))) ∧ (¬ (((((K <<< ((1 : Int32) &&& 31)) + ((K <<< ((1 : Int32) &&& 31)) + (4 : Int32))) >>> ((1 : Int32) &&& 31)) <<< ((1 : Int32) &&& 31)) = (K <<< ((1 : Int32) &&& 31)))) ∧ (¬ (((((K <<< ((1 : Int32) &&& 31)) + ((K <<< ((1 : Int32) &&& 31)) + (4 : Int32))) >>> ((1 : Int32) &&& 31)) <<< ((1 : Int32) &&& 31)) < (0 : Int32))) ∧ (((((K <<< ((1 : Int32) &&& 31)) + ((K <<< ((1 : Int32) &&& 31)) + (4 : Int32))) >>> ((1 : Int32) &&& 31)) <<< ((1 : Int32) &&& 31)).toNatClampNeg ≤ 400) ∧ (¬ (((((K <<< ((1 : Int32) &&& 31)) + ((K <<< ((1 : Int32) &&& 31)) + (4 : Int32))) >>> ((1 : Int32) &&& 31)) <<< ((1 : Int32) &&& 31)) < (K <<< ((1 : Int32) &&& 31)))) ∧ (¬ ((K <<< ((1 : Int32) &&& 31)) < (0 : Int32))) ∧ ((K <<< ((1 : Int32) &&& 31)).toNatClampNeg ≤ (K <<< ((1 : Int32) &&& 31)).toNatClampNeg) ∧ ((0 : Int32).toNatClampNeg + (K <<< ((1 : Int32) &&& 31)).toNatClampNeg ≤ ((((K <<< ((1 : Int32) &&& 31)) + ((K <<< ((1 : Int32) &&& 31)) + (4 : Int32))) >>> ((1 : Int32) &&& 31)) <<< ((1 : Int32) &&& 31)).toNatClampNeg) ∧ ((2 * cn.toNatClampNeg) ≤ (K <<< ((1 : Int32) &&& 31)).toNatClampNeg) ∧ (((((K <<< ((1 : Int32) &&& 31)) + ((K <<< ((1 : Int32) &&& 31)) + (4 : Int32))) >>> ((1 : Int32) &&& 31)) <<< ((1 : Int32) &&& 31)) = (K2 <<< ((1 : Int32) &&& 31))) ∧ (¬ ((cn <<< ((0 : Int32) &&& 31)) < (0 : Int32))) ∧ (¬ (cm < (0 : Int32))) ∧ (cm.toNatClampNeg ≤ cm.toNatClampNeg) ∧ ((cn <<< ((0 : Int32) &&& 31)).toNatClampNeg + cm.toNatClampNeg ≤ K2.toNatClampNeg) ∧ ((cn <<< ((0 : Int32) &&& 31)).toNatClampNeg = cn.toNatClampNeg) ∧ ((cn.toNatClampNeg + cm.toNatClampNeg) = n2.toNatClampNeg) ∧ (¬ (K2 < (0 : Int32))) ∧ (K2 < (1073741823 : Int32)) ∧ (¬ ((K2 <<< ((1 : Int32) &&& 31)) < (0 : Int32))) ∧ ((K2 <<< ((1 : Int32) &&& 31)).toNatClampNeg ≤ 400) ∧ (¬ (((((K2 <<< ((1 : Int32) &&& 31)) >>> ((1 : Int32) &&& 31)) ||| (0 : Int32)) ||| cn) < (0 : Int32))) ∧ (¬ ((((K2 <<< ((1 : Int32) &&& 31)) >>> ((1 : Int32) &&& 31)) - (0 : Int32)) < cn)) ∧ (2 * ((0 : Int32).toNatClampNeg + cn.toNatClampNeg) ≤ (K2 <<< ((1 : Int32) &&& 31)).toNatClampNeg) ∧ (cn.toNatClampNeg ≤ K2.toNatClampNeg) ∧ (¬ (cn < (0 : Int32))) ∧ (¬ ((cn <<< ((1 : Int32) &&& 31)) < (0 : Int32))) ∧ (¬ ((cm <<< ((1 : Int32) &&& 31)) < (0 : Int32))) ∧ ((cm <<< ((1 : Int32) &&& 31)).toNatClampNeg ≤ (cm <<< ((1 : Int32) &&& 31)).toNatClampNeg) ∧ ((cn <<< ((1 : Int32) &&& 31)).toNatClampNeg + (cm <<< ((1 : Int32) &&& 31)).toNatClampNeg ≤ (K2 <<< ((1 : Int32) &&& 31)).toNatClampNeg) ∧ ((cn <<< ((1 : Int32) &&& 31)).toNatClampNeg = (2 * cn.toNatClampNeg)) ∧ ((2 * cm.toNatClampNeg) ≤ (cm <<< ((1 : Int32) &&& 31)).toNatClampNeg) ∧ (¬ (((((K2 <<< ((1 : Int32) &&& 31)) >>> ((1 : Int32) &&& 31)) ||| cn) ||| cm) < (0 : Int32))) ∧ (¬ ((((K2 <<< ((1 : Int32) &&& 31)) >>> ((1 : Int32) &&& 31)) - cn) < cm)) ∧ (2 * cn.toNatClampNeg = (2 * cn.toNatClampNeg)) ∧ (2 * (cn.toNatClampNeg + cm.toNatClampNeg) ≤ (K2 <<< ((1 : Int32) &&& 31)).toNatClampNeg)
theorem rm12_44 l Z a0 (hw : HW Z a0) sb ta (cs : List Int32) (cn : Int32) (K : Int32) sx bx (ds : List Int32) (cm : Int32) (n2 : Int32) (K2 : Int32) (G1 : Int32) (G3 : Value) h0 n0 (OLD : Old Z n0 h0) (S_sb : own_sb Z h0 sb ta cs cn K) (A' : Fld Z h0 sb cN0 "count" "I" (.int cn)) (S_sx : own_st Z h0 sx bx ds cm) (O2 : Sta Z Z.heap cN1 "COMPACT_STRINGS" "Z" (.int G1)) (P5 : ¬ (G1 = (0 : Int32))) (ge_sb : n0 ≤ sb) (ne_sx_sb : sx ≠ sb) (ne_bx_sb : bx ≠ sb) (O4 : Sta Z Z.heap cN5 "SIOOBE_FORMATTER" "Ljava/util/function/BiFunction;" G3) (rG3 : G3.isRef = true) (Sas : Sta Z Z.heap cN2 "$assertionsDisabled" "Z" (.int 1)) (SHI : Sta Z Z.heap cN2 "HI_BYTE_SHIFT" "I" (.int 0)) (SLO : Sta Z Z.heap cN2 "LO_BYTE_SHIFT" "I" (.int 8)) (hC : C12_44 cn K cm n2 K2) :
  own_CN l Z y26 jdk_68_method_22_code 3 (some (.object cN0)) [] R12_44 #[.ref sb, .ref sx] h0 (Q12_44 Z sb ta cs cn K sx bx ds cm n2 K2 G1 G3 h0 n0) := by
 refine own_entryN (plainFor_of_name pn_5) fun p e s m below meth c s₁ hx hby hml hown hnm hret hlk hZ hh X0 e0 => ?_
 obtain ⟨hn5, hn6, hn8, hn9, hn10, hn11, hn12, hn13, hn14, hn15, hn16, hn17, hn18, hn19, hn20, hn21, hn22, hn23, hn24, hn25, hn26, hn27, hn28, hn29, hn30, hn31, hn32, hn33, hn34, hn35, hn43, hn44, hn45, hn46, hn47, hn48, hn49, hn50, hn51, hn52, hn53, hn54, hn55, hn56, hn57, hn58, hn59, hn60, hn61, hn62, hn63, hn64, hn65, hn66, hn67⟩ := hC
 have N0 := Fr.nil n0
 rw [ef_12_16 m sb sx]
 refine og s₁ (mkF m 10 #[vR sb, vR sx, vU] [.ref sx]) (fun _ k => qa X0 hx hby d12_0 rfl rfl rfl (XS.ifnonnullYes X0.here hx rfl (pc0 := 1) (pc' := 9) rfl (hb hby d12_1) rfl (by decide) (by decide) (qa X0 hx hby d12_9 rfl rfl rfl k))) ?_
 obtain ⟨_, T1, L1, X1, hQ1, st1⟩ := own_vc X0 hx hZ hown (ow hw 86) (ow hw 87) (ow hw 89) (ow hw 88) S_sx.1 (rm13_17 l Z a0 hw sx bx ds cm G1 h0 n0 OLD S_sx O2 P5 ⟨hn5, hn6⟩) (ow hw 90) (ow hw 5) e0 (g := (mkF m 10 #[vR sb, vR sx, vU] [.ref sx])) rfl (zs hml) (argsL := []) (rest := []) (lenOf pd_9 rfl) rfl (hb hby d12_10) (W := 0) rfl
 obtain ⟨rfl, Nq1, eq1⟩ := hQ1
 have N1 := Fr.app N0 Nq1
 refine og T1 (mkF m 16 #[vR sb, vR sx, vI cm] [.ref sb, .ref sb]) (fun _ k => st1.trans (XS.istoreN X1.here hx rfl (hb hby d12_13) rfl (l' := #[vR sb, vR sx, vI cm]) rfl (qa X1 hx hby d12_14 rfl rfl rfl (qa X1 hx hby d12_15 rfl rfl rfl k)))) ?_
 obtain ⟨T2, X2, e2, st2⟩ := qf X1 hx hZ hown (ow hw 96) eq1 A' (g := (mkF m 16 #[vR sb, vR sx, vI cm] [.ref sb, .ref sb])) rfl rfl hby d12_16
 refine og T2 (mkF m 21 #[vR sb, vR sx, vI cm] [(.int (cn + cm)), .ref sb]) (fun _ k => st2 _ (qi X2 hx hby d12_19 rfl rfl (qp X2 hx hby d12_20 rfl rfl k))) ?_
 obtain ⟨_, T3, L3, X3, hQ3, st3⟩ := own_pc X2 hx hZ hown (ow hw 98) (ow hw 101) (ow hw 99) (ow hw 100) S_sb.1 (rm15_45 l Z a0 hw sb ta cs cn K ((cn + cm)) K2 h0 n0 OLD S_sb A' ge_sb ⟨hn8, hn9, hn10, hn11, hn12, hn13, hn14, hn15, hn16, hn17, hn18, hn19, hn20, hn21, hn22, hn23, hn24, hn25, hn26, hn27, hn28, hn29, hn30, hn31, hn32, hn33, hn34, hn35⟩) (ow hw 102) (ow hw 68) e2 (g := (mkF m 21 #[vR sb, vR sx, vI cm] [(.int (cn + cm)), .ref sb])) rfl (zs hml) (argsL := [(.int (cn + cm))]) (rest := []) (lenOf pd_7 rfl) rfl (hb hby d12_21) (W := 0) rfl
 obtain ⟨o4, kc5, rfl, Nq3, K3, f6, f7, f8⟩ := hQ3
 have N3 := Fr.app N1 Nq3
 have g9 : n0 ≤ o4 := Nat.le_trans (own_osz OLD) f6
 have z10 : h0.size ≤ o4 := Nat.le_trans (Nat.le_refl _) f6
 refine og T3 (mkF m 26 #[vR sb, vR sx, vI cm] [.ref sb, .ref sb]) (fun _ k => st3.trans (qa X3 hx hby d12_24 rfl rfl rfl (qa X3 hx hby d12_25 rfl rfl rfl k))) ?_
 obtain ⟨T11, X11, e11, st11⟩ := qf X3 hx hZ hown (ow hw 96) rfl f8 (g := (mkF m 26 #[vR sb, vR sx, vI cm] [.ref sb, .ref sb])) rfl rfl hby d12_26
 refine og T11 (mkF m 30 #[vR sb, vR sx, vI cm] [.ref sx, .int cn, .ref sb]) (fun _ k => st11 _ (qa X11 hx hby d12_29 rfl rfl rfl k)) ?_
 have F12 := (S_sx.keep K3 (ninS ne_sx_sb nin0) (ninS ne_bx_sb nin0))
 have F13 := (OLD.keep K3 (allS ge_sb all0))
 have F15 := (S_sb.1.keep K3)
 obtain ⟨_, T14, L14, X14, hQ14, st14⟩ := own_pc X11 hx hZ hown (ow hw 103) (ow hw 106) (ow hw 104) (ow hw 105) F15 (rm16_20 l Z a0 hw sb o4 cs cn K2 sx bx ds cm n2 G1 G3 T3.heap n0 F13 f7 f8 F12 O2 P5 g9 (own_ne_lo S_sb.lt f6) O4 rG3 Sas SHI SLO ge_sb ne_sx_sb ne_bx_sb (own_ne_lo S_sx.ltb f6) ⟨hn43, hn44, hn45, hn46, hn47, hn48, hn49, hn50, hn51, hn52, hn53, hn54, hn55, hn56, hn57, hn58, hn59, hn60, hn61, hn62, hn63, hn64, hn65, hn66, hn67⟩) (ow hw 107) (ow hw 68) e11 (g := (mkF m 30 #[vR sb, vR sx, vI cm] [.ref sx, .int cn, .ref sb])) rfl (zs hml) (argsL := [.int cn, .ref sx]) (rest := []) (lenOf pd_20 rfl) rfl (hb hby d12_30) (W := 0) rfl
 obtain ⟨o16, rfl, Nq14, K14, f17, f18, f19⟩ := hQ14
 have N14 := Fr.app N3 Nq14
 have g20 : n0 ≤ o16 := own_altge f17 g9 (own_osz F13)
 have F22 := (Nat.le_trans (Nat.le_refl _) K3.1)
 have z21 : h0.size ≤ o16 := own_altge f17 z10 F22
 refine og T14 (mkF m 35 #[vR sb, vR sx, vI cm] [.ref sb, .ref sb]) (fun _ k => st14.trans (qa X14 hx hby d12_33 rfl rfl rfl (XS.dup X14.here hx rfl (hb hby d12_34) rfl rfl k))) ?_
 obtain ⟨T23, X23, e23, st23⟩ := qf X14 hx hZ hown (ow hw 96) rfl f19 (g := (mkF m 35 #[vR sb, vR sx, vI cm] [.ref sb, .ref sb])) rfl rfl hby d12_35
 refine og T23 (mkF m 40 #[vR sb, vR sx, vI cm] [(.int (cn + cm)), .ref sb]) (fun _ k => st23 _ (qi X23 hx hby d12_38 rfl rfl (qp X23 hx hby d12_39 rfl rfl k))) ?_
 have F24 := (F15.keep K14)
 obtain ⟨T25, h25, X25, e25, W25, st25⟩ := putF X23 hx hZ hown (host := "") (Or.inl (ow hw 96)) Via.refl e23 f19 F24 (Or.inl (ow hw 97)) (ow hw 59) (ty := .int) (by decide) rfl rfl (g := (mkF m 40 #[vR sb, vR sx, vI cm] [(.int (cn + cm)), .ref sb])) rfl rfl (hb hby d12_40)
 have Fw25 := f19.same W25
 have N25 := Fr.snoc X25 N14 ge_sb
 refine og T25 (mkF m 44 #[vR sb, vR sx, vI cm] [.ref sb]) (fun _ k => st25 _ (qa X25 hx hby d12_43 rfl rfl rfl k)) ?_
 have ne26 : sb ≠ o16 := (own_altne f17 (own_ne_lo S_sb.lt f6) (Nat.lt_of_lt_of_le S_sb.lt K3.1))
 have F27 := (f18.wrc W25 (slot_ne (Or.inl (ow hw 73)) (Or.inl (ow hw 97)) (by decide) (t := (.array .byte)) (t' := .int) (by decide) (by decide)) (slot_ne (Or.inl (ow hw 368)) (Or.inl (ow hw 97)) (by decide) (t := .boolean) (t' := .int) (by decide) (by decide)) (slot_ne (Or.inl (ow hw 75)) (Or.inl (ow hw 97)) (by decide) (t := .byte) (t' := .int) (by decide) (by decide)) (Ne.symm ne26))
 have KEEP := ((((Keep.refl h0 [sb]).trans K3 (allS (Or.inl (List.mem_of_getElem? (i := 0) rfl)) all0)).trans K14 (allS (Or.inl (List.mem_of_getElem? (i := 0) rfl)) (allS (Or.inr z10) all0))).wr W25 (Or.inl (List.mem_of_getElem? (i := 0) rfl)))
 exact own_leaveN X25 hlk (v := some (.ref sb)) (own_nr hret) (lb rfl) (lb rfl) (by rw [e25]; exact ⟨o16, rfl, N25, KEEP, z21, F27, Fw25⟩) (own_ra X25 hx hret rfl rfl rfl (hb hby d12_44))
abbrev R11_43 : Room := { frames := 9, cells := 2, slots := 800, locals := 130 }
def Q11_43 (Z : State) (sb ta : Addr) (cs : List Int32) (cn K : Int32) (sx bx : Addr) (ds : List Int32) (cm n2 : Int32) (K2 G1 : Int32) (G3 : Value) (h0 : Heap) (n0 : Nat) (v : Option Value) (h : Heap) (L : List Loc) : Prop := (∃ (eq0 : Addr), v = some (.ref sb) ∧ Fr n0 L ∧ Keep h0 h [sb] ∧ h0.size ≤ eq0 ∧ own_sb Z h sb eq0 (cs ++ ds) n2 K2 ∧ Fld Z h sb cN0 "count" "I" (.int (cn + cm)))
abbrev C11_43 (cn : Int32) (K : Int32) (cm : Int32) (n2 : Int32) (K2 : Int32) : Prop := ((cm >>> ((0 : Int32) &&& 31)) = cm) ∧ (((cm <<< ((1 : Int32) &&& 31)) >>> ((1 : Int32) &&& 31)) = cm) ∧ ((0 : Int32) < ((cn + cm) - (K >>> ((0 : Int32) &&& 31)))) ∧ ((((cn + cm) <<< ((0 : Int32) &&& 31)) - K) < (K + (2 : Int32))) ∧ ((0 : Int32) < (K + (K + (2 : Int32)))) ∧ (¬ ((2147483639 : Int32) < (K + (K + (2 : Int32))))) ∧ (¬ ((K + (K + (2 : Int32))) = (2147483647 : Int32))) ∧ (¬ ((((K + (K + (2 : Int32))) >>> ((0 : Int32) &&& 31)) <<< ((0 : Int32) &&& 31)) = K)) ∧ (¬ ((((K + (K + (2 : Int32))) >>> ((0 : Int32) &&& 31)) <<< ((0 : Int32) &&& 31)) < (0 : Int32))) ∧ ((((K + (K + (2 : Int32))) >>> ((0 : Int32) &&& 31)) <<< ((0 : Int32) &&& 31)).toNatClampNeg ≤ 400) ∧ (¬ ((((K + (K + (2 : Int32))) >>> ((0 : Int32) &&& 31)) <<< ((0 : Int32) &&& 31)) < K)) ∧ (¬ (K < (0 : Int32))) ∧ (K.toNatClampNeg ≤ K.toNatClampNeg) ∧ ((0 : Int32).toNatClampNeg + K.toNatClampNeg ≤ (((K + (K + (2 : Int32))) >>> ((0 : Int32) &&& 31)) <<< ((0 : Int32) &&& 31)).toNatClampNeg) ∧ (cn.toNatClampNeg ≤ K.toNatClampNeg) ∧ ((((K + (K + (2 : Int32))) >>> ((0 : Int32) &&& 31)) <<< ((0 : Int32) &&& 31)) = K2) ∧ ((0 : Int32) < ((cn + cm) - ((K <<< ((1 : Int32) &&& 31)) >>> ((1 : Int32) &&& 31)))) ∧ ((((cn + cm) <<< ((1 : Int32) &&& 31)) - (K <<< ((1 : Int32) &&& 31))) < ((K <<< ((1 : Int32) &&& 31)) + (4 : Int32))) ∧ ((0 : Int32) < ((K <<< ((1 : Int32) &&& 31)) + ((K <<< ((1 : Int32) &&& 31)) + (4 : Int32)))) ∧ (¬ ((2147483639 : Int32) < ((K <<< ((1 : Int32) &&& 31)) + ((K <<< ((1 : Int32) &&& 31)) + (4 : Int32))))) ∧ (¬ (((K <<< ((1 : Int32) &&& 31)) + ((K <<< ((1 : Int32) &&& 31)) + (4 : Int32))) = (2147483647 : Int32))) ∧ (¬ (((((K <<< ((1 : Int32) &&& 31)) + ((K <<< ((1 : Int32) &&& 31)) + (4 : Int32))) >>> ((1 : Int32) &&& 31)) <<< ((1 : Int32) &&& 31)) = (K <<< ((1 : Int32) &&& 31)))) ∧ (¬ (((((K <<< ((1 : Int32) &&& 31)) + ((K <<< ((1 : Int32) &&& 31)) + (4 : Int32))) >>> ((1 : Int32) &&& 31)) <<< ((1 : Int32) &&& 31)) < (0 : Int32))) ∧ (((((K <<< ((1 : Int32) &&& 31)) + ((K <<< ((1 : Int32) &&& 31)) + (4 : Int32))) >>> ((1 : Int32) &&& 31)) <<< ((1 : Int32) &&& 31)).toNatClampNeg ≤ 400) ∧ (¬ (((((K <<< ((1 : Int32) &&& 31)) + ((K <<< ((1 : Int32) &&& 31)) + (4 : Int32))) >>> ((1 : Int32) &&& 31)) <<< ((1 : Int32) &&& 31)) < (K <<< ((1 : Int32) &&& 31)))) ∧ (¬ ((K <<< ((1 : Int32) &&& 31)) < (0 : Int32))) ∧ ((K <<< ((1 : Int32) &&& 31)).toNatClampNeg ≤ (K <<< ((1 : Int32) &&& 31)).toNatClampNeg) ∧ ((0 : Int32).toNatClampNeg + (K <<< ((1 : Int32) &&& 31)).toNatClampNeg ≤ ((((K <<< ((1 : Int32) &&& 31)) + ((K <<< ((1 : Int32) &&& 31)) + (4 : Int32))) >>> ((1 : Int32) &&& 31)) <<< ((1 : Int32) &&& 31)).toNatClampNeg) ∧ ((2 * cn.toNatClampNeg) ≤ (K <<< ((1 : Int32) &&& 31)).toNatClampNeg) ∧ (((((K <<< ((1 : Int32) &&& 31)) + ((K <<< ((1 : Int32) &&& 31)) + (4 : Int32))) >>> ((1 : Int32) &&& 31)) <<< ((1 : Int32) &&& 31)) = (K2 <<< ((1 : Int32) &&& 31))) ∧ (¬ ((cn <<< ((0 : Int32) &&& 31)) < (0 : Int32))) ∧ (¬ (cm < (0 : Int32))) ∧ (cm.toNatClampNeg ≤ cm.toNatClampNeg) ∧ ((cn <<< ((0 : Int32) &&& 31)).toNatClampNeg + cm.toNatClampNeg ≤ K2.toNatClampNeg) ∧ ((cn <<< ((0 : Int32) &&& 31)).toNatClampNeg = cn.toNatClampNeg) ∧ ((cn.toNatClampNeg + cm.toNatClampNeg) = n2.toNatClampNeg) ∧ (¬ (K2 < (0 : Int32))) ∧ (K2 < (1073741823 : Int32)) ∧ (¬ ((K2 <<< ((1 : Int32) &&& 31)) < (0 : Int32))) ∧ ((K2 <<< ((1 : Int32) &&& 31)).toNatClampNeg ≤ 400) ∧ (¬ (((((K2 <<< ((1 : Int32) &&& 31)) >>> ((1 : Int32) &&& 31)) ||| (0 : Int32)) ||| cn) < (0 : Int32))) ∧ (¬ ((((K2 <<< ((1 : Int32) &&& 31)) >>> ((1 : Int32) &&& 31)) - (0 : Int32)) < cn)) ∧ (2 * ((0 : Int32).toNatClampNeg + cn.toNatClampNeg) ≤ (K2 <<< ((1 : Int32) &&& 31)).toNatClampNeg) ∧ (cn.toNatClampNeg ≤ K2.toNatClampNeg) ∧ (¬ (cn < (0 : Int32))) ∧ (¬ ((cn <<< ((1 : Int32) &&& 31)) < (0 : Int32))) ∧ (¬ ((cm <<< ((1 : Int32) &&& 31)) < (0 : Int32))) ∧ ((cm <<< ((1 : Int32) &&& 31)).toNatClampNeg ≤ (cm <<< ((1 : Int32) &&& 31)).toNatClampNeg) ∧ ((cn <<< ((1 : Int32) &&& 31)).toNatClampNeg + (cm <<< ((1 : Int32) &&& 31)).toNatClampNeg ≤ (K2 <<< ((1 : Int32) &&& 31)).toNatClampNeg) ∧ ((cn <<< ((1 : Int32) &&& 31)).toNatClampNeg = (2 * cn.toNatClampNeg)) ∧ ((2 * cm.toNatClampNeg) ≤ (cm <<< ((1 : Int32) &&& 31)).toNatClampNeg) ∧ (¬ (((((K2 <<< ((1 : Int32) &&& 31)) >>> ((1 : Int32) &&& 31)) ||| cn) ||| cm) < (0 : Int32))) ∧ (¬ ((((K2 <<< ((1 : Int32) &&& 31)) >>> ((1 : Int32) &&& 31)) - cn) < cm)) ∧ (2 * cn.toNatClampNeg = (2 * cn.toNatClampNeg)) ∧ (2 * (cn.toNatClampNeg + cm.toNatClampNeg) ≤ (K2 <<< ((1 : Int32) &&& 31)).toNatClampNeg)
theorem rm11_43 l Z a0 (hw : HW Z a0) sb ta (cs : List Int32) (cn : Int32) (K : Int32) sx bx (ds : List Int32) (cm : Int32) (n2 : Int32) (K2 : Int32) (G1 : Int32) (G3 : Value) h0 n0 (OLD : Old Z n0 h0) (S_sb : own_sb Z h0 sb ta cs cn K) (A' : Fld Z h0 sb cN0 "count" "I" (.int cn)) (S_sx : own_st Z h0 sx bx ds cm) (O2 : Sta Z Z.heap cN1 "COMPACT_STRINGS" "Z" (.int G1)) (P5 : ¬ (G1 = (0 : Int32))) (ge_sb : n0 ≤ sb) (ne_sx_sb : sx ≠ sb) (ne_bx_sb : bx ≠ sb) (O4 : Sta Z Z.heap cN5 "SIOOBE_FORMATTER" "Ljava/util/function/BiFunction;" G3) (rG3 : G3.isRef = true) (Sas : Sta Z Z.heap cN2 "$assertionsDisabled" "Z" (.int 1)) (SHI : Sta Z Z.heap cN2 "HI_BYTE_SHIFT" "I" (.int 0)) (SLO : Sta Z Z.heap cN2 "LO_BYTE_SHIFT" "I" (.int 8)) (hC : C11_43 cn K cm n2 K2) :
  own_CN l Z y27 jdk_67_method_7_code 2 (some (.object cN6)) [] R11_43 #[.ref sb, .ref sx] h0 (Q11_43 Z sb ta cs cn K sx bx ds cm n2 K2 G1 G3 h0 n0) := by
 refine own_entryN (plainFor_of_name pn_6) fun p e s m below meth c s₁ hx hby hml hown hnm hret hlk hZ hh X0 e0 => ?_
 obtain ⟨hn13, hn14, hn15, hn16, hn17, hn18, hn19, hn20, hn21, hn22, hn23, hn24, hn25, hn26, hn27, hn28, hn29, hn30, hn31, hn32, hn33, hn34, hn35, hn36, hn37, hn38, hn39, hn40, hn41, hn42, hn43, hn44, hn45, hn46, hn47, hn48, hn49, hn50, hn51, hn52, hn53, hn54, hn55, hn56, hn57, hn58, hn59, hn60, hn61, hn62, hn63, hn64, hn65, hn66, hn67⟩ := hC
 have N0 := Fr.nil n0
 rw [ef_17_21 m sb sx]
 refine og s₁ (mkF m 2 #[vR sb, vR sx] [.ref sx, .ref sb]) (fun _ k => qa X0 hx hby d11_0 rfl rfl rfl (qa X0 hx hby d11_1 rfl rfl rfl k)) ?_
 obtain ⟨_, _, ⟨T2, L2, k2, n2⟩, -, X2, ⟨Lc2, hQ2, l2, y2, z2⟩, st2⟩ := superBack X0 hx hZ (y := y26) hown (ow hw 81) (own_same (z := y12) (ow hw 101) (ow hw 82) rfl (by decide)) (ow hw 82) (ow hw 83) (by decide) (backOf (W := 0) (rm12_44 l Z a0 hw sb ta cs cn K sx bx ds cm n2 K2 G1 G3 h0 n0 OLD S_sb A' S_sx O2 P5 ge_sb ne_sx_sb ne_bx_sb O4 rG3 Sas SHI SLO ⟨hn13, hn14, hn15, hn16, hn17, hn18, hn19, hn20, hn21, hn22, hn23, hn24, hn25, hn26, hn27, hn28, hn29, hn30, hn31, hn32, hn33, hn34, hn35, hn36, hn37, hn38, hn39, hn40, hn41, hn42, hn43, hn44, hn45, hn46, hn47, hn48, hn49, hn50, hn51, hn52, hn53, hn54, hn55, hn56, hn57, hn58, hn59, hn60, hn61, hn62, hn63, hn64, hn65, hn66, hn67⟩) hZ (ow hw 85) (ow hw 68) (lb rfl) (lb rfl)) e0 (Ins.self S_sb.1) (g := (mkF m 2 #[vR sb, vR sx] [.ref sx, .ref sb])) rfl (zs hml) (ow hw 85) (argsL := [.ref sx]) (rest := []) (lenOf pd_21 rfl) rfl (lb rfl) (hb hby d11_2) (fun _ _ => ⟨rfl, e0, (lb rfl), (lb rfl)⟩)
 dsimp only [Pt.U, Pt.locs, Pt.cells, Pt.slots] at X2 l2 y2 z2 st2 hQ2
 subst l2 y2 z2
 obtain ⟨o3, rfl, Nq2, K2, f4, f5, f6⟩ := hQ2
 have N2 := Fr.app N0 Nq2
 have g7 : n0 ≤ o3 := Nat.le_trans (own_osz OLD) f4
 have z8 : h0.size ≤ o3 := Nat.le_trans (Nat.le_refl _) f4
 refine og T2 (mkF m 7 #[vR sb, vR sx] [.ref sb]) (fun _ k => st2.trans (XS.pop X2.here hx rfl (hb hby d11_5) rfl rfl (qa X2 hx hby d11_6 rfl rfl rfl k))) ?_
 have KEEP := ((Keep.refl h0 [sb]).trans K2 (allS (Or.inl (List.mem_of_getElem? (i := 0) rfl)) all0))
 exact own_leaveN X2 hlk (v := some (.ref sb)) (own_nr hret) (lb rfl) (lb rfl) (by exact ⟨o3, rfl, N2, KEEP, z8, f5, f6⟩) (own_ra X2 hx hret rfl rfl rfl (hb hby d11_7))
abbrev R27_56 : Room := { frames := 0, cells := 0, slots := 0, locals := 0 }
def Q27_56 (Z : State) (ra0 w1 : Addr) (h0 : Heap) (n0 : Nat) (v : Option Value) (h : Heap) (L : List Loc) : Prop := (v = some (.ref w1) ∧ Fr n0 L ∧ h = h0)
theorem rm27_56 l Z a0 (hw : HW Z a0) ra0 w1 h0 n0 (OLD : Old Z n0 h0) (A' : Fld Z h0 ra0 cN0 "value" "[B" (.ref w1)) :
  own_CN l Z y33 jdk_68_method_64_code 1 (some (.array .byte)) [] R27_56 #[.ref ra0] h0 (Q27_56 Z ra0 w1 h0 n0) := by
 refine own_entryN (plainFor_of_name pn_5) fun p e s m below meth c s₁ hx hby hml hown hnm hret hlk hZ hh X0 e0 => ?_
 have N0 := Fr.nil n0
 rw [ef_7_11 m ra0]
 refine og s₁ (mkF m 1 #[vR ra0] [.ref ra0]) (fun _ k => qa X0 hx hby d27_0 rfl rfl rfl k) ?_
 obtain ⟨T2, X2, e2, st2⟩ := qf X0 hx hZ hown (ow hw 72) e0 A' (g := (mkF m 1 #[vR ra0] [.ref ra0])) rfl rfl hby d27_1
 refine og T2 (mkF m 4 #[vR ra0] [.ref w1]) st2 ?_
 exact own_leaveN X2 hlk (v := some (.ref w1)) (own_nr hret) (lb rfl) (lb rfl) (by rw [e2]; exact ⟨rfl, N0, rfl⟩) (own_ra X2 hx hret rfl rfl rfl (hb hby d27_4))
abbrev R29_58 : Room := { frames := 0, cells := 0, slots := 0, locals := 0 }
def Q29_58 (Z : State) (ra0 : Addr) (w1 : Int32) (h0 : Heap) (n0 : Nat) (v : Option Value) (h : Heap) (L : List Loc) : Prop := (v = some (.int w1) ∧ Fr n0 L ∧ h = h0)
theorem rm29_58 l Z a0 (hw : HW Z a0) ra0 (w1 : Int32) h0 n0 (OLD : Old Z n0 h0) (A' : Fld Z h0 ra0 cN0 "count" "I" (.int w1)) :
  own_CN l Z y34 jdk_68_method_6_code 1 (some .int) [] R29_58 #[.ref ra0] h0 (Q29_58 Z ra0 w1 h0 n0) := by
 refine own_entryN (plainFor_of_name pn_5) fun p e s m below meth c s₁ hx hby hml hown hnm hret hlk hZ hh X0 e0 => ?_
 have N0 := Fr.nil n0
 rw [ef_7_11 m ra0]
 refine og s₁ (mkF m 1 #[vR ra0] [.ref ra0]) (fun _ k => qa X0 hx hby d29_0 rfl rfl rfl k) ?_
 obtain ⟨T2, X2, e2, st2⟩ := qf X0 hx hZ hown (ow hw 96) e0 A' (g := (mkF m 1 #[vR ra0] [.ref ra0])) rfl rfl hby d29_1
 refine og T2 (mkF m 4 #[vR ra0] [.int w1]) st2 ?_
 exact own_leaveN X2 hlk (v := some (.int w1)) (own_nr hret) (lb rfl) (lb rfl) (by rw [e2]; exact ⟨rfl, N0, rfl⟩) (fun fs hr => retI X2 hx hret (hb hby d29_4) hr)
abbrev R28_57 : Room := { frames := 1, cells := 0, slots := 0, locals := 12 }
def Q28_57 (Z : State) (ra0 : Addr) (w1 : Int32) (h0 : Heap) (n0 : Nat) (v : Option Value) (h : Heap) (L : List Loc) : Prop := (v = some (.int w1) ∧ Fr n0 L ∧ h = h0)
theorem rm28_57 l Z a0 (hw : HW Z a0) ra0 (w1 : Int32) h0 n0 (OLD : Old Z n0 h0) (A' : Fld Z h0 ra0 cN0 "count" "I" (.int w1)) (B' : Exa Z h0 ra0 cN6) :
  own_CN l Z y35 jdk_67_method_93_code 1 (some .int) [] R28_57 #[.ref ra0] h0 (Q28_57 Z ra0 w1 h0 n0) := by
 refine own_entryN (plainFor_of_name pn_6) fun p e s m below meth c s₁ hx hby hml hown hnm hret hlk hZ hh X0 e0 => ?_
 have N0 := Fr.nil n0
 rw [ef_7_11 m ra0]
 refine og s₁ (mkF m 1 #[vR ra0] [.ref ra0]) (fun _ k => qa X0 hx hby d28_0 rfl rfl rfl k) ?_
 obtain ⟨_, _, ⟨T3, L3, k3, n3⟩, -, X3, ⟨Lc3, hQ3, l3, y3, z3⟩, st3⟩ := superBack X0 hx hZ (y := y34) hown (ow hw 171) (own_same (z := y12) (ow hw 101) (ow hw 167) rfl (by decide)) (ow hw 167) (ow hw 83) (by decide) (backOf (W := 0) (rm29_58 l Z a0 hw ra0 w1 h0 n0 OLD A') hZ (ow hw 172) (ow hw 68) (lb rfl) (lb rfl)) e0 (Ins.self B') (g := (mkF m 1 #[vR ra0] [.ref ra0])) rfl (zs hml) (ow hw 172) (argsL := []) (rest := []) (lenOf pd_9 rfl) rfl (lb rfl) (hb hby d28_1) (fun _ _ => ⟨rfl, e0, (lb rfl), (lb rfl)⟩)
 dsimp only [Pt.U, Pt.locs, Pt.cells, Pt.slots] at X3 l3 y3 z3 st3 hQ3
 subst l3 y3 z3
 obtain ⟨rfl, Nq3, eq3⟩ := hQ3
 have N3 := Fr.app N0 Nq3
 refine ot T3 (mkF m 4 #[vR ra0] [.int w1]) st3 ?_
 exact own_leaveN X3 hlk (v := some (.int w1)) (own_nr hret) (lb rfl) (lb rfl) (by rw [eq3]; exact ⟨rfl, N3, rfl⟩) (fun fs hr => retI X3 hx hret (hb hby d28_4) hr)
abbrev R33_61 : Room := { frames := 0, cells := 0, slots := 0, locals := 0 }
def Q33_61 (Z : State) (cn0 cn1 : Int32) (h0 : Heap) (n0 : Nat) (v : Option Value) (h : Heap) (L : List Loc) : Prop := (v = none ∧ Fr n0 L ∧ h = h0)
theorem rm33_61 l Z a0 (hw : HW Z a0) (cn0 : Int32) (cn1 : Int32) h0 n0 (OLD : Old Z n0 h0) (hn0 : ¬ (cn1 < cn0)) :
  own_CN l Z y36 jdk_65_method_131_code 2 none [] R33_61 #[.int cn0, .int cn1] h0 (Q33_61 Z cn0 cn1 h0 n0) := by
 refine own_entryN (plainFor_of_name pn_9) fun p e s m below meth c s₁ hx hby hml hown hnm hret hlk hZ hh X0 e0 => ?_
 have N0 := Fr.nil n0
 rw [ef_21_48 m cn0 cn1]
 refine og s₁ (mkF m 37 #[vI cn0, vI cn1] []) (fun _ k => qi X0 hx hby d33_0 rfl rfl (qi X0 hx hby d33_1 rfl rfl (XS.icmpYes X0.here hx rfl (pc0 := 2) (pc' := 37) rfl (hb hby d33_2) rfl (flt hn0).2.1 (by decide) (by decide) k))) ?_
 exact own_leaveN X0 hlk (v := none) (fun _ => rfl) (lb rfl) (lb rfl) (by rw [e0]; exact ⟨rfl, N0, rfl⟩) (fun fs hr => X0.returnOut hx hret (hb hby d33_37) hr)
abbrev R23_62 : Room := { frames := 0, cells := 0, slots := 0, locals := 0 }
def Q23_62 (Z : State) (cn0 cn1 : Int32) (h0 : Heap) (n0 : Nat) (v : Option Value) (h : Heap) (L : List Loc) : Prop := (v = some (.int cn1) ∧ Fr n0 L ∧ h = h0)
theorem rm23_62 l Z a0 (hw : HW Z a0) (cn0 : Int32) (cn1 : Int32) h0 n0 (OLD : Old Z n0 h0) (hn0 : cn1 < cn0) :
  own_CN l Z y31 jdk_29_method_69_code 2 (some .int) [] R23_62 #[.int cn0, .int cn1] h0 (Q23_62 Z cn0 cn1 h0 n0) := by
 refine own_entryN (Jvm.Free.JP.mathPlain rfl (by decide +kernel)) fun p e s m below meth c s₁ hx hby hml hown hnm hret hlk hZ hh X0 e0 => ?_
 have N0 := Fr.nil n0
 rw [ef_21_48 m cn0 cn1]
 refine og s₁ (mkF m 10 #[vI cn0, vI cn1] [.int cn1]) (fun _ k => qi X0 hx hby d23_0 rfl rfl (qi X0 hx hby d23_1 rfl rfl (XS.icmpYes X0.here hx rfl (pc0 := 2) (pc' := 9) rfl (hb hby d23_2) rfl (tlt hn0).2.2.1 (by decide) (by decide) (qi X0 hx hby d23_9 rfl rfl k)))) ?_
 exact own_leaveN X0 hlk (v := some (.int cn1)) (own_nr hret) (lb rfl) (lb rfl) (by rw [e0]; exact ⟨rfl, N0, rfl⟩) (fun fs hr => retI X0 hx hret (hb hby d23_10) hr)
abbrev R32_60 : Room := { frames := 1, cells := 1, slots := 400, locals := 18 }
def Q32_60 (Z : State) (ra0 : Addr) (kc1 : ClassId) (cs2 : List Int32) (nl2 : Nat) (cn1 cn2 cn3 : Int32) (h0 : Heap) (n0 : Nat) (v : Option Value) (h : Heap) (L : List Loc) : Prop := (∃ (b2 : Addr) (k2 : ClassId), v = some (.ref b2) ∧ Fr n0 L ∧ Keep h0 h [] ∧ h0.size ≤ b2 ∧ Exa Z h b2 "[B" ∧ Arv Z h b2 k2 .byte (cn3 - cn2) (own_by cs2) (.int 0))
theorem rm32_60 l Z a0 (hw : HW Z a0) ra0 kc1 (cs2 : List Int32) nl2 (cn1 : Int32) (cn2 : Int32) (cn3 : Int32) h0 n0 (OLD : Old Z n0 h0) (A' : Exa Z h0 ra0 "[B") (B' : cs2.length = nl2) (C' : own_L cs2) (D' : Arv Z h0 ra0 kc1 .byte cn1 (own_by cs2) (.int 0)) (hn4 : ¬ (cn3 < cn2)) (hn5 : ¬ ((cn3 - cn2) < (0 : Int32))) (hn6 : (cn3 - cn2).toNatClampNeg ≤ 400) (hn7 : (cn3 - cn2) < (cn1 - cn2)) (hn8 : cn2 = (0 : Int32)) (hn9 : (cn3 - cn2).toNatClampNeg ≤ cn1.toNatClampNeg) (hn10 : (0 : Int32).toNatClampNeg + (cn3 - cn2).toNatClampNeg ≤ (cn3 - cn2).toNatClampNeg) (hn11 : nl2 ≤ (cn3 - cn2).toNatClampNeg) :
  own_CN l Z y37 jdk_65_method_133_code 5 (some (.array .byte)) [] R32_60 #[.ref ra0, .int cn2, .int cn3] h0 (Q32_60 Z ra0 kc1 cs2 nl2 cn1 cn2 cn3 h0 n0) := by
 refine own_entryN (plainFor_of_name pn_9) fun p e s m below meth c s₁ hx hby hml hown hnm hret hlk hZ hh X0 e0 => ?_
 have N0 := Fr.nil n0
 rw [ef_32_60 m ra0 cn2 cn3]
 refine og s₁ (mkF m 2 #[vR ra0, vI cn2, vI cn3, vU, vU] [.int cn3, .int cn2]) (fun _ k => qi X0 hx hby d32_0 rfl rfl (qi X0 hx hby d32_1 rfl rfl k)) ?_
 obtain ⟨_, T1, L1, X1, hQ1, st1⟩ := own_tc X0 hx hZ hown (ow hw 184) (ow hw 185) (rm33_61 l Z a0 hw cn2 cn3 h0 n0 OLD hn4) (ow hw 186) (ow hw 141) e0 (g := (mkF m 2 #[vR ra0, vI cn2, vI cn3, vU, vU] [.int cn3, .int cn2])) rfl (zs hml) (argsL := [.int cn2, .int cn3]) (rest := []) (lenOf pd_26 rfl) rfl (hb hby d32_2) (W := 0) rfl
 obtain ⟨rfl, Nq1, eq1⟩ := hQ1
 have N1 := Fr.app N0 Nq1
 refine og T1 (mkF m 10 #[vR ra0, vI cn2, vI cn3, vI (cn3 - cn2), vU] [(.int (cn3 - cn2))]) (fun _ k => st1.trans (qi X1 hx hby d32_5 rfl rfl (qi X1 hx hby d32_6 rfl rfl (XS.isub X1.here hx rfl (hb hby d32_7) rfl (XS.istoreN X1.here hx rfl (hb hby d32_8) rfl (l' := #[vR ra0, vI cn2, vI cn3, vI (cn3 - cn2), vU]) rfl (qi X1 hx hby d32_9 rfl rfl k)))))) ?_
 obtain ⟨T2, h2, k2, X2, e2, E2, A2, Ea2, st2⟩ := newPE X1 hx hZ (ow hw 17) eq1 (g := (mkF m 10 #[vR ra0, vI cn2, vI cn3, vI (cn3 - cn2), vU] [(.int (cn3 - cn2))])) rfl (hb hby d32_10) rfl hn5 (cap := 400) hn6 (lb rfl) (lb rfl) (lb rfl) (ad := "[B") (by decide)
 obtain ⟨b2, gb2⟩ : ∃ z, z = h0.size := ⟨_, rfl⟩
 rw [← gb2] at A2 Ea2 st2
 have g3 : n0 ≤ b2 := Nat.le_trans (own_osz OLD) (Nat.le_of_eq gb2.symm)
 have z4 : h0.size ≤ b2 := Nat.le_trans (Nat.le_refl _) (Nat.le_of_eq gb2.symm)
 have V2 : Arv Z h2 b2 k2 .byte (cn3 - cn2) (own_by ([] : List Int32)) (.int 0) := Arv.new A2 hn5
 refine og T2 (mkF m 20 #[vR ra0, vI cn2, vI cn3, vI (cn3 - cn2), vR b2] [.ref ra0, .int 0, .ref b2, .int cn2, .ref ra0]) (fun _ k => st2 _ (XS.astore X2.here hx rfl (hb hby d32_12) rfl rfl (l' := #[vR ra0, vI cn2, vI cn3, vI (cn3 - cn2), vR b2]) rfl (qa X2 hx hby d32_14 rfl rfl rfl (qi X2 hx hby d32_15 rfl rfl (XS.aload X2.here hx rfl (hb hby d32_16) rfl rfl (qc X2 hx hby d32_18 rfl (qa X2 hx hby d32_19 rfl rfl rfl k))))))) ?_
 have F5 := (D'.ext E2)
 obtain ⟨cl6, Ar6, -, Sr6, Nr6, -, -⟩ := id F5
 refine og T2 (mkF m 21 #[vR ra0, vI cn2, vI cn3, vI (cn3 - cn2), vR b2] [.int cn1, .int 0, .ref b2, .int cn2, .ref ra0]) (fun t k => X2.arraylength hx (by rw [e2]; exact Ar6.1) (State.isArrayOf_alike hZ.alike Ar6.2.1) (g := (mkF m 20 #[vR ra0, vI cn2, vI cn3, vI (cn3 - cn2), vR b2] [.ref ra0, .int 0, .ref b2, .int cn2, .ref ra0])) rfl rfl (hb hby d32_20) t (by rw [len_of Sr6 Nr6]; exact k)) ?_
 refine og T2 (mkF m 24 #[vR ra0, vI cn2, vI cn3, vI (cn3 - cn2), vR b2] [(.int (cn3 - cn2)), (.int (cn1 - cn2)), .int 0, .ref b2, .int cn2, .ref ra0]) (fun _ k => qi X2 hx hby d32_21 rfl rfl (XS.isub X2.here hx rfl (hb hby d32_22) rfl (qi X2 hx hby d32_23 rfl rfl k))) ?_
 have F7 := (OLD.ext E2)
 obtain ⟨_, T8, L8, X8, hQ8, st8⟩ := own_tc X2 hx hZ hown (ow hw 143) (ow hw 144) (rm23_62 l Z a0 hw ((cn1 - cn2)) ((cn3 - cn2)) h2 n0 F7 hn7) (ow hw 145) (ow hw 135) e2 (g := (mkF m 24 #[vR ra0, vI cn2, vI cn3, vI (cn3 - cn2), vR b2] [(.int (cn3 - cn2)), (.int (cn1 - cn2)), .int 0, .ref b2, .int cn2, .ref ra0])) rfl (zs hml) (argsL := [(.int (cn1 - cn2)), (.int (cn3 - cn2))]) (rest := [.int 0, .ref b2, .int cn2, .ref ra0]) (lenOf pd_23 rfl) rfl (hb hby d32_24) (W := 4) rfl
 obtain ⟨rfl, Nq8, eq8⟩ := hQ8
 have N8 := Fr.app N1 Nq8
 refine ot T8 (mkF m 27 #[vR ra0, vI cn2, vI cn3, vI (cn3 - cn2), vR b2] [(.int (cn3 - cn2)), .int 0, .ref b2, .int cn2, .ref ra0]) st8 ?_
 obtain ⟨T9, h9, L9, X9, e9, N9, K9, Vq9, st9⟩ := own_cpB X8 hx hZ hown (ow hw 146) (ow hw 122) (ow hw 120) (ow hw 121) eq8 F5 V2 (sp := cn2) (dp := (0 : Int32)) (nn := (cn3 - cn2)) hn8 (by decide : ¬ ((0 : Int32) < (0 : Int32))) hn5 hn9 hn10 (Eq.trans rfl (Eq.symm (by decide : (0 : Int32).toNatClampNeg = 0))) (Nat.le_trans (Nat.le_of_eq B') hn11) N8 g3 (g := (mkF m 27 #[vR ra0, vI cn2, vI cn3, vI (cn3 - cn2), vR b2] [(.int (cn3 - cn2)), .int 0, .ref b2, .int cn2, .ref ra0])) rfl (zs hml) rfl (hb hby d32_27) (lb rfl) (W := 0) (lb rfl) (lb rfl)
 have V9 : Arv Z h9 b2 k2 .byte (cn3 - cn2) (own_by cs2) (.int 0) := (by simpa using Vq9)
 refine og T9 (mkF m 32 #[vR ra0, vI cn2, vI cn3, vI (cn3 - cn2), vR b2] [.ref b2]) (fun _ k => st9 _ (XS.aload X9.here hx rfl (hb hby d32_30) rfl rfl k)) ?_
 have F10 := (Ea2.keep K9)
 have KEEP := (((Keep.refl h0 []).ext E2).trans K9 (allS (Or.inr z4) all0))
 exact own_leaveN X9 hlk (v := some (.ref b2)) (own_nr hret) (lb rfl) (lb rfl) (by rw [e9]; exact ⟨b2, k2, rfl, N9, KEEP, z4, F10, V9⟩) (own_ra X9 hx hret rfl rfl rfl (hb hby d32_32))
abbrev R31_59 : Room := { frames := 2, cells := 1, slots := 400, locals := 34 }
def Q31_59 (Z : State) (ra0 : Addr) (kc1 : ClassId) (cs2 : List Int32) (nl2 : Nat) (cn1 cn2 cn3 : Int32) (h0 : Heap) (n0 : Nat) (v : Option Value) (h : Heap) (L : List Loc) : Prop := (∃ (o3 : Addr) (kc4 : ClassId), v = some (.ref o3) ∧ Fr n0 L ∧ Keep h0 h [] ∧ h0.size ≤ o3 ∧ Exa Z h o3 "[B" ∧ Arv Z h o3 kc4 .byte (cn3 - cn2) (own_by cs2) (.int 0))
theorem rm31_59 l Z a0 (hw : HW Z a0) ra0 kc1 (cs2 : List Int32) nl2 (cn1 : Int32) (cn2 : Int32) (cn3 : Int32) h0 n0 (OLD : Old Z n0 h0) (A' : Exa Z h0 ra0 "[B") (B' : cs2.length = nl2) (C' : own_L cs2) (D' : Arv Z h0 ra0 kc1 .byte cn1 (own_by cs2) (.int 0)) (hn4 : cn2 = (0 : Int32)) (hn5 : ¬ (cn3 = cn1)) (hn6 : ¬ (cn3 < cn2)) (hn7 : ¬ ((cn3 - cn2) < (0 : Int32))) (hn8 : (cn3 - cn2).toNatClampNeg ≤ 400) (hn9 : (cn3 - cn2) < (cn1 - cn2)) (hn10 : (cn3 - cn2).toNatClampNeg ≤ cn1.toNatClampNeg) (hn11 : (0 : Int32).toNatClampNeg + (cn3 - cn2).toNatClampNeg ≤ (cn3 - cn2).toNatClampNeg) (hn12 : nl2 ≤ (cn3 - cn2).toNatClampNeg) :
  own_CN l Z y38 jdk_65_method_132_code 3 (some (.array .byte)) [] R31_59 #[.ref ra0, .int cn2, .int cn3] h0 (Q31_59 Z ra0 kc1 cs2 nl2 cn1 cn2 cn3 h0 n0) := by
 refine own_entryN (plainFor_of_name pn_9) fun p e s m below meth c s₁ hx hby hml hown hnm hret hlk hZ hh X0 e0 => ?_
 have N0 := Fr.nil n0
 rw [ef_55_1 m ra0 cn2 cn3]
 refine og s₁ (mkF m 6 #[vR ra0, vI cn2, vI cn3] [.ref ra0, .int cn3]) (fun _ k => qi X0 hx hby d31_0 rfl rfl (XS.ifNo X0.here hx rfl (hb hby d31_1) rfl ((if0 _ _).trans (teq hn4).2) (qi X0 hx hby d31_4 rfl rfl (qa X0 hx hby d31_5 rfl rfl rfl k)))) ?_
 obtain ⟨cl1, Ar1, -, Sr1, Nr1, -, -⟩ := id D'
 refine og s₁ (mkF m 7 #[vR ra0, vI cn2, vI cn3] [.int cn1, .int cn3]) (fun t k => X0.arraylength hx (by rw [e0]; exact Ar1.1) (State.isArrayOf_alike hZ.alike Ar1.2.1) (g := (mkF m 6 #[vR ra0, vI cn2, vI cn3] [.ref ra0, .int cn3])) rfl rfl (hb hby d31_6) t (by rw [len_of Sr1 Nr1]; exact k)) ?_
 refine og s₁ (mkF m 13 #[vR ra0, vI cn2, vI cn3] [.int cn3, .int cn2, .ref ra0]) (fun _ k => qn X0 hx hby d31_7 rfl rfl (feq hn5).1 (qa X0 hx hby d31_10 rfl rfl rfl (qi X0 hx hby d31_11 rfl rfl (qi X0 hx hby d31_12 rfl rfl k)))) ?_
 obtain ⟨_, T2, L2, X2, hQ2, st2⟩ := own_tc X0 hx hZ hown (ow hw 181) (ow hw 182) (rm32_60 l Z a0 hw ra0 kc1 cs2 nl2 cn1 cn2 cn3 h0 n0 OLD A' B' C' D' hn6 hn7 hn8 hn9 hn4 hn10 hn11 hn12) (ow hw 183) (ow hw 141) e0 (g := (mkF m 13 #[vR ra0, vI cn2, vI cn3] [.int cn3, .int cn2, .ref ra0])) rfl (zs hml) (argsL := [.ref ra0, .int cn2, .int cn3]) (rest := []) (lenOf pd_27 rfl) rfl (hb hby d31_13) (W := 0) rfl
 obtain ⟨o3, kc4, rfl, Nq2, K2, f5, f6, f7⟩ := hQ2
 have N2 := Fr.app N0 Nq2
 have g8 : n0 ≤ o3 := Nat.le_trans (own_osz OLD) f5
 have z9 : h0.size ≤ o3 := Nat.le_trans (Nat.le_refl _) f5
 refine ot T2 (mkF m 16 #[vR ra0, vI cn2, vI cn3] [.ref o3]) st2 ?_
 have KEEP := ((Keep.refl h0 []).trans K2 all0)
 exact own_leaveN X2 hlk (v := some (.ref o3)) (own_nr hret) (lb rfl) (lb rfl) (by exact ⟨o3, kc4, rfl, N2, KEEP, z9, f6, f7⟩) (own_ra X2 hx hret rfl rfl rfl (hb hby d31_16))
abbrev R32_64 : Room := { frames := 1, cells := 1, slots := 400, locals := 18 }
def Q32_64 (Z : State) (ra0 : Addr) (kc1 : ClassId) (cs2 : List Int32) (nl2 : Nat) (cn1 cn2 cn3 : Int32) (h0 : Heap) (n0 : Nat) (v : Option Value) (h : Heap) (L : List Loc) : Prop := (∃ (b2 : Addr) (k2 : ClassId), v = some (.ref b2) ∧ Fr n0 L ∧ Keep h0 h [] ∧ h0.size ≤ b2 ∧ Exa Z h b2 "[B" ∧ Arv Z h b2 k2 .byte (cn3 - cn2) (own_by cs2) (.int 0))
theorem rm32_64 l Z a0 (hw : HW Z a0) ra0 kc1 (cs2 : List Int32) nl2 (cn1 : Int32) (cn2 : Int32) (cn3 : Int32) h0 n0 (OLD : Old Z n0 h0) (A' : Exa Z h0 ra0 "[B") (B' : cs2.length = nl2) (C' : Arv Z h0 ra0 kc1 .byte cn1 (own_by cs2) (.int 0)) (hn3 : ¬ (cn3 < cn2)) (hn4 : ¬ ((cn3 - cn2) < (0 : Int32))) (hn5 : (cn3 - cn2).toNatClampNeg ≤ 400) (hn6 : (cn3 - cn2) < (cn1 - cn2)) (hn7 : cn2 = (0 : Int32)) (hn8 : (cn3 - cn2).toNatClampNeg ≤ cn1.toNatClampNeg) (hn9 : (0 : Int32).toNatClampNeg + (cn3 - cn2).toNatClampNeg ≤ (cn3 - cn2).toNatClampNeg) (hn10 : nl2 ≤ (cn3 - cn2).toNatClampNeg) :
  own_CN l Z y37 jdk_65_method_133_code 5 (some (.array .byte)) [] R32_64 #[.ref ra0, .int cn2, .int cn3] h0 (Q32_64 Z ra0 kc1 cs2 nl2 cn1 cn2 cn3 h0 n0) := by
 refine own_entryN (plainFor_of_name pn_9) fun p e s m below meth c s₁ hx hby hml hown hnm hret hlk hZ hh X0 e0 => ?_
 have N0 := Fr.nil n0
 rw [ef_32_60 m ra0 cn2 cn3]
 refine og s₁ (mkF m 2 #[vR ra0, vI cn2, vI cn3, vU, vU] [.int cn3, .int cn2]) (fun _ k => qi X0 hx hby d32_0 rfl rfl (qi X0 hx hby d32_1 rfl rfl k)) ?_
 obtain ⟨_, T1, L1, X1, hQ1, st1⟩ := own_tc X0 hx hZ hown (ow hw 184) (ow hw 185) (rm33_61 l Z a0 hw cn2 cn3 h0 n0 OLD hn3) (ow hw 186) (ow hw 141) e0 (g := (mkF m 2 #[vR ra0, vI cn2, vI cn3, vU, vU] [.int cn3, .int cn2])) rfl (zs hml) (argsL := [.int cn2, .int cn3]) (rest := []) (lenOf pd_26 rfl) rfl (hb hby d32_2) (W := 0) rfl
 obtain ⟨rfl, Nq1, eq1⟩ := hQ1
 have N1 := Fr.app N0 Nq1
 refine og T1 (mkF m 10 #[vR ra0, vI cn2, vI cn3, vI (cn3 - cn2), vU] [(.int (cn3 - cn2))]) (fun _ k => st1.trans (qi X1 hx hby d32_5 rfl rfl (qi X1 hx hby d32_6 rfl rfl (XS.isub X1.here hx rfl (hb hby d32_7) rfl (XS.istoreN X1.here hx rfl (hb hby d32_8) rfl (l' := #[vR ra0, vI cn2, vI cn3, vI (cn3 - cn2), vU]) rfl (qi X1 hx hby d32_9 rfl rfl k)))))) ?_
 obtain ⟨T2, h2, k2, X2, e2, E2, A2, Ea2, st2⟩ := newPE X1 hx hZ (ow hw 17) eq1 (g := (mkF m 10 #[vR ra0, vI cn2, vI cn3, vI (cn3 - cn2), vU] [(.int (cn3 - cn2))])) rfl (hb hby d32_10) rfl hn4 (cap := 400) hn5 (lb rfl) (lb rfl) (lb rfl) (ad := "[B") (by decide)
 obtain ⟨b2, gb2⟩ : ∃ z, z = h0.size := ⟨_, rfl⟩
 rw [← gb2] at A2 Ea2 st2
 have g3 : n0 ≤ b2 := Nat.le_trans (own_osz OLD) (Nat.le_of_eq gb2.symm)
 have z4 : h0.size ≤ b2 := Nat.le_trans (Nat.le_refl _) (Nat.le_of_eq gb2.symm)
 have V2 : Arv Z h2 b2 k2 .byte (cn3 - cn2) (own_by ([] : List Int32)) (.int 0) := Arv.new A2 hn4
 refine og T2 (mkF m 20 #[vR ra0, vI cn2, vI cn3, vI (cn3 - cn2), vR b2] [.ref ra0, .int 0, .ref b2, .int cn2, .ref ra0]) (fun _ k => st2 _ (XS.astore X2.here hx rfl (hb hby d32_12) rfl rfl (l' := #[vR ra0, vI cn2, vI cn3, vI (cn3 - cn2), vR b2]) rfl (qa X2 hx hby d32_14 rfl rfl rfl (qi X2 hx hby d32_15 rfl rfl (XS.aload X2.here hx rfl (hb hby d32_16) rfl rfl (qc X2 hx hby d32_18 rfl (qa X2 hx hby d32_19 rfl rfl rfl k))))))) ?_
 have F5 := (C'.ext E2)
 obtain ⟨cl6, Ar6, -, Sr6, Nr6, -, -⟩ := id F5
 refine og T2 (mkF m 21 #[vR ra0, vI cn2, vI cn3, vI (cn3 - cn2), vR b2] [.int cn1, .int 0, .ref b2, .int cn2, .ref ra0]) (fun t k => X2.arraylength hx (by rw [e2]; exact Ar6.1) (State.isArrayOf_alike hZ.alike Ar6.2.1) (g := (mkF m 20 #[vR ra0, vI cn2, vI cn3, vI (cn3 - cn2), vR b2] [.ref ra0, .int 0, .ref b2, .int cn2, .ref ra0])) rfl rfl (hb hby d32_20) t (by rw [len_of Sr6 Nr6]; exact k)) ?_
 refine og T2 (mkF m 24 #[vR ra0, vI cn2, vI cn3, vI (cn3 - cn2), vR b2] [(.int (cn3 - cn2)), (.int (cn1 - cn2)), .int 0, .ref b2, .int cn2, .ref ra0]) (fun _ k => qi X2 hx hby d32_21 rfl rfl (XS.isub X2.here hx rfl (hb hby d32_22) rfl (qi X2 hx hby d32_23 rfl rfl k))) ?_
 have F7 := (OLD.ext E2)
 obtain ⟨_, T8, L8, X8, hQ8, st8⟩ := own_tc X2 hx hZ hown (ow hw 143) (ow hw 144) (rm23_62 l Z a0 hw ((cn1 - cn2)) ((cn3 - cn2)) h2 n0 F7 hn6) (ow hw 145) (ow hw 135) e2 (g := (mkF m 24 #[vR ra0, vI cn2, vI cn3, vI (cn3 - cn2), vR b2] [(.int (cn3 - cn2)), (.int (cn1 - cn2)), .int 0, .ref b2, .int cn2, .ref ra0])) rfl (zs hml) (argsL := [(.int (cn1 - cn2)), (.int (cn3 - cn2))]) (rest := [.int 0, .ref b2, .int cn2, .ref ra0]) (lenOf pd_23 rfl) rfl (hb hby d32_24) (W := 4) rfl
 obtain ⟨rfl, Nq8, eq8⟩ := hQ8
 have N8 := Fr.app N1 Nq8
 refine ot T8 (mkF m 27 #[vR ra0, vI cn2, vI cn3, vI (cn3 - cn2), vR b2] [(.int (cn3 - cn2)), .int 0, .ref b2, .int cn2, .ref ra0]) st8 ?_
 obtain ⟨T9, h9, L9, X9, e9, N9, K9, Vq9, st9⟩ := own_cpB X8 hx hZ hown (ow hw 146) (ow hw 122) (ow hw 120) (ow hw 121) eq8 F5 V2 (sp := cn2) (dp := (0 : Int32)) (nn := (cn3 - cn2)) hn7 (by decide : ¬ ((0 : Int32) < (0 : Int32))) hn4 hn8 hn9 (Eq.trans rfl (Eq.symm (by decide : (0 : Int32).toNatClampNeg = 0))) (Nat.le_trans (Nat.le_of_eq B') hn10) N8 g3 (g := (mkF m 27 #[vR ra0, vI cn2, vI cn3, vI (cn3 - cn2), vR b2] [(.int (cn3 - cn2)), .int 0, .ref b2, .int cn2, .ref ra0])) rfl (zs hml) rfl (hb hby d32_27) (lb rfl) (W := 0) (lb rfl) (lb rfl)
 have V9 : Arv Z h9 b2 k2 .byte (cn3 - cn2) (own_by cs2) (.int 0) := (by simpa using Vq9)
 refine og T9 (mkF m 32 #[vR ra0, vI cn2, vI cn3, vI (cn3 - cn2), vR b2] [.ref b2]) (fun _ k => st9 _ (XS.aload X9.here hx rfl (hb hby d32_30) rfl rfl k)) ?_
 have F10 := (Ea2.keep K9)
 have KEEP := (((Keep.refl h0 []).ext E2).trans K9 (allS (Or.inr z4) all0))
 exact own_leaveN X9 hlk (v := some (.ref b2)) (own_nr hret) (lb rfl) (lb rfl) (by rw [e9]; exact ⟨b2, k2, rfl, N9, KEEP, z4, F10, V9⟩) (own_ra X9 hx hret rfl rfl rfl (hb hby d32_32))
abbrev R31_63 : Room := { frames := 2, cells := 1, slots := 400, locals := 34 }
def Q31_63 (Z : State) (ra0 : Addr) (kc1 : ClassId) (cs2 : List Int32) (nl2 : Nat) (cn1 cn2 cn3 : Int32) (h0 : Heap) (n0 : Nat) (v : Option Value) (h : Heap) (L : List Loc) : Prop := (∃ (o3 : Addr) (kc4 : ClassId), v = some (.ref o3) ∧ Fr n0 L ∧ Keep h0 h [] ∧ h0.size ≤ o3 ∧ Exa Z h o3 "[B" ∧ Arv Z h o3 kc4 .byte (cn3 - cn2) (own_by cs2) (.int 0))
theorem rm31_63 l Z a0 (hw : HW Z a0) ra0 kc1 (cs2 : List Int32) nl2 (cn1 : Int32) (cn2 : Int32) (cn3 : Int32) h0 n0 (OLD : Old Z n0 h0) (A' : Exa Z h0 ra0 "[B") (B' : cs2.length = nl2) (C' : Arv Z h0 ra0 kc1 .byte cn1 (own_by cs2) (.int 0)) (hn3 : cn2 = (0 : Int32)) (hn4 : ¬ (cn3 = cn1)) (hn5 : ¬ (cn3 < cn2)) (hn6 : ¬ ((cn3 - cn2) < (0 : Int32))) (hn7 : (cn3 - cn2).toNatClampNeg ≤ 400) (hn8 : (cn3 - cn2) < (cn1 - cn2)) (hn9 : (cn3 - cn2).toNatClampNeg ≤ cn1.toNatClampNeg) (hn10 : (0 : Int32).toNatClampNeg + (cn3 - cn2).toNatClampNeg ≤ (cn3 - cn2).toNatClampNeg) (hn11 : nl2 ≤ (cn3 - cn2).toNatClampNeg) :
  own_CN l Z y38 jdk_65_method_132_code 3 (some (.array .byte)) [] R31_63 #[.ref ra0, .int cn2, .int cn3] h0 (Q31_63 Z ra0 kc1 cs2 nl2 cn1 cn2 cn3 h0 n0) := by
 refine own_entryN (plainFor_of_name pn_9) fun p e s m below meth c s₁ hx hby hml hown hnm hret hlk hZ hh X0 e0 => ?_
 have N0 := Fr.nil n0
 rw [ef_55_1 m ra0 cn2 cn3]
 refine og s₁ (mkF m 6 #[vR ra0, vI cn2, vI cn3] [.ref ra0, .int cn3]) (fun _ k => qi X0 hx hby d31_0 rfl rfl (XS.ifNo X0.here hx rfl (hb hby d31_1) rfl ((if0 _ _).trans (teq hn3).2) (qi X0 hx hby d31_4 rfl rfl (qa X0 hx hby d31_5 rfl rfl rfl k)))) ?_
 obtain ⟨cl1, Ar1, -, Sr1, Nr1, -, -⟩ := id C'
 refine og s₁ (mkF m 7 #[vR ra0, vI cn2, vI cn3] [.int cn1, .int cn3]) (fun t k => X0.arraylength hx (by rw [e0]; exact Ar1.1) (State.isArrayOf_alike hZ.alike Ar1.2.1) (g := (mkF m 6 #[vR ra0, vI cn2, vI cn3] [.ref ra0, .int cn3])) rfl rfl (hb hby d31_6) t (by rw [len_of Sr1 Nr1]; exact k)) ?_
 refine og s₁ (mkF m 13 #[vR ra0, vI cn2, vI cn3] [.int cn3, .int cn2, .ref ra0]) (fun _ k => qn X0 hx hby d31_7 rfl rfl (feq hn4).1 (qa X0 hx hby d31_10 rfl rfl rfl (qi X0 hx hby d31_11 rfl rfl (qi X0 hx hby d31_12 rfl rfl k)))) ?_
 obtain ⟨_, T2, L2, X2, hQ2, st2⟩ := own_tc X0 hx hZ hown (ow hw 181) (ow hw 182) (rm32_64 l Z a0 hw ra0 kc1 cs2 nl2 cn1 cn2 cn3 h0 n0 OLD A' B' C' hn5 hn6 hn7 hn8 hn3 hn9 hn10 hn11) (ow hw 183) (ow hw 141) e0 (g := (mkF m 13 #[vR ra0, vI cn2, vI cn3] [.int cn3, .int cn2, .ref ra0])) rfl (zs hml) (argsL := [.ref ra0, .int cn2, .int cn3]) (rest := []) (lenOf pd_27 rfl) rfl (hb hby d31_13) (W := 0) rfl
 obtain ⟨o3, kc4, rfl, Nq2, K2, f5, f6, f7⟩ := hQ2
 have N2 := Fr.app N0 Nq2
 have g8 : n0 ≤ o3 := Nat.le_trans (own_osz OLD) f5
 have z9 : h0.size ≤ o3 := Nat.le_trans (Nat.le_refl _) f5
 refine ot T2 (mkF m 16 #[vR ra0, vI cn2, vI cn3] [.ref o3]) st2 ?_
 have KEEP := ((Keep.refl h0 []).trans K2 all0)
 exact own_leaveN X2 hlk (v := some (.ref o3)) (own_nr hret) (lb rfl) (lb rfl) (by exact ⟨o3, kc4, rfl, N2, KEEP, z9, f6, f7⟩) (own_ra X2 hx hret rfl rfl rfl (hb hby d31_16))
abbrev R26_55 : Room := { frames := 3, cells := 1, slots := 400, locals := 49 }
def Q26_55 (Z : State) (ra0 ra1 ra2 : Addr) (cs3 : List Int32) (cn0 cn1 : Int32) (cn2 G1 : Int32) (h0 : Heap) (n0 : Nat) (v : Option Value) (h : Heap) (L : List Loc) : Prop := (∃ (eq0 : Addr) (eq1 : ClassId), v = none ∧ Fr n0 L ∧ Keep h0 h [ra0] ∧ h0.size ≤ eq0 ∧ own_st Z h ra0 eq0 cs3 cn0)
abbrev C26_55 (cn0 : Int32) (cn1 : Int32) (cn2 : Int32) : Prop := (¬ (cn2 = cn1)) ∧ (¬ (cn2 < (0 : Int32))) ∧ (¬ ((cn2 - (0 : Int32)) < (0 : Int32))) ∧ ((cn2 - (0 : Int32)).toNatClampNeg ≤ 400) ∧ ((cn2 - (0 : Int32)) < (cn1 - (0 : Int32))) ∧ ((cn2 - (0 : Int32)).toNatClampNeg ≤ cn1.toNatClampNeg) ∧ ((0 : Int32).toNatClampNeg + (cn2 - (0 : Int32)).toNatClampNeg ≤ (cn2 - (0 : Int32)).toNatClampNeg) ∧ (cn0.toNatClampNeg ≤ (cn2 - (0 : Int32)).toNatClampNeg) ∧ ((cn2 - (0 : Int32)) = cn0) ∧ (¬ ((cn2 <<< ((1 : Int32) &&& 31)) = (cn1 <<< ((1 : Int32) &&& 31)))) ∧ (¬ ((cn2 <<< ((1 : Int32) &&& 31)) < (0 : Int32))) ∧ (¬ (((cn2 <<< ((1 : Int32) &&& 31)) - (0 : Int32)) < (0 : Int32))) ∧ (((cn2 <<< ((1 : Int32) &&& 31)) - (0 : Int32)).toNatClampNeg ≤ 400) ∧ (((cn2 <<< ((1 : Int32) &&& 31)) - (0 : Int32)) < ((cn1 <<< ((1 : Int32) &&& 31)) - (0 : Int32))) ∧ (((cn2 <<< ((1 : Int32) &&& 31)) - (0 : Int32)).toNatClampNeg ≤ (cn1 <<< ((1 : Int32) &&& 31)).toNatClampNeg) ∧ ((0 : Int32).toNatClampNeg + ((cn2 <<< ((1 : Int32) &&& 31)) - (0 : Int32)).toNatClampNeg ≤ ((cn2 <<< ((1 : Int32) &&& 31)) - (0 : Int32)).toNatClampNeg) ∧ ((2 * cn0.toNatClampNeg) ≤ ((cn2 <<< ((1 : Int32) &&& 31)) - (0 : Int32)).toNatClampNeg) ∧ (((cn2 <<< ((1 : Int32) &&& 31)) - (0 : Int32)) = (cn0 <<< ((1 : Int32) &&& 31)))
theorem rm26_55 l Z a0 (hw : HW Z a0) ra0 ra1 ra2 (cs3 : List Int32) (cn0 : Int32) (cn1 : Int32) (cn2 : Int32) (G1 : Int32) h0 n0 (OLD : Old Z n0 h0) (A' : Exa Z h0 ra0 cN1) (B' : Fld Z h0 ra0 cN1 "coder" "B" (.int 0)) (C' : Fld Z h0 ra0 cN1 "value" "[B" .null) (S_ra1 : own_sb Z h0 ra1 ra2 cs3 cn0 cn1) (D' : Fld Z h0 ra1 cN0 "count" "I" (.int cn2)) (O2 : Sta Z Z.heap cN1 "COMPACT_STRINGS" "Z" (.int G1)) (P5 : ¬ (G1 = (0 : Int32))) (E' : n0 ≤ ra0) (ne_ra2_ra0 : ra2 ≠ ra0) (hC : C26_55 cn0 cn1 cn2) :
  own_CN l Z y39 jdk_42_method_150_code 5 none [] R26_55 #[.ref ra0, .ref ra1, .null] h0 (Q26_55 Z ra0 ra1 ra2 cs3 cn0 cn1 cn2 G1 h0 n0) := by
 refine own_entryN (plainFor_of_name pn_2) fun p e s m below meth c s₁ hx hby hml hown hnm hret hlk hZ hh X0 e0 => ?_
 obtain ⟨hn9, hn10, hn11, hn12, hn13, hn14, hn15, hn16, hn17, hn18, hn19, hn20, hn21, hn22, hn23, hn24, hn25, hn26⟩ := hC
 have N0 := Fr.nil n0
 rw [ef_26_55 m ra0 ra1]
 obtain ⟨kc1, ⟨Fc1, Vc1, lc1⟩ | ⟨Fc1, Vc1, lc1⟩⟩ := S_ra1.2.2.2.2.2
 ·
  refine og s₁ (mkF m 1 #[vR ra0, vR ra1, vN, vU, vU] [.ref ra0]) (fun _ k => qa X0 hx hby d26_0 rfl rfl rfl k) ?_
  obtain ⟨T2, X2, e2, st2⟩ := initO X0 hx hZ hown (ow hw 22) (ow hw 23) (ow hw 24) e0 (g := (mkF m 1 #[vR ra0, vR ra1, vN, vU, vU] [.ref ra0])) rfl (zs hml) rfl (hb hby d26_1) (by decide) (W := 0) (lb rfl) (by decide)
  refine og T2 (mkF m 5 #[vR ra0, vR ra1, vN, vU, vU] [.ref ra1]) (fun _ k => st2 _ (qa X2 hx hby d26_4 rfl rfl rfl k)) ?_
  obtain ⟨_, T3, L3, X3, hQ3, st3⟩ := own_vc X2 hx hZ hown (ow hw 160) (ow hw 161) (ow hw 163) (ow hw 162) S_ra1.1 (rm27_56 l Z a0 hw ra1 ra2 h0 n0 OLD S_ra1.2.1) (ow hw 164) (ow hw 68) e2 (g := (mkF m 5 #[vR ra0, vR ra1, vN, vU, vU] [.ref ra1])) rfl (zs hml) (argsL := []) (rest := []) (lenOf pd_25 rfl) rfl (hb hby d26_5) (W := 0) rfl
  obtain ⟨rfl, Nq3, eq3⟩ := hQ3
  have N3 := Fr.app N0 Nq3
  refine og T3 (mkF m 10 #[vR ra0, vR ra1, vN, vR ra2, vU] [.ref ra1]) (fun _ k => st3.trans (XS.astoreN X3.here hx rfl (hb hby d26_8) rfl rfl (l' := #[vR ra0, vR ra1, vN, vR ra2, vU]) rfl (qa X3 hx hby d26_9 rfl rfl rfl k))) ?_
  obtain ⟨cq5, kq5, q5a, q5b, q5c⟩ := isOf hZ eq3 S_ra1.1
  obtain ⟨_, _, ⟨T5, L5, k5, n5⟩, -, X5, ⟨Lc5, hQ5, l5, y5, z5⟩, st5⟩ := X3.virtualBack hx (y := y34) (z := y35) hown (mvT hZ (ow hw 165)) (mvT hZ (ow hw 166)) (own_nf (args := #[]) (z := y12) (mvT hZ (ow hw 101)) rfl) (mvT hZ (ow hw 168)) (mvT hZ (ow hw 169)) (by decide) (backOf (W := 0) (rm28_57 l Z a0 hw ra1 cn2 h0 n0 OLD D' S_ra1.1) hZ (ow hw 170) (ow hw 60) (lb rfl) (lb rfl)) q5a q5c (g := (mkF m 10 #[vR ra0, vR ra1, vN, vR ra2, vU] [.ref ra1])) rfl (zs hml) (Steps.refl _) (argsL := []) (rest := []) (lenOf pd_9 rfl) rfl (lb rfl) (hb hby d26_10) (fun _ _ => ⟨rfl, eq3, (lb rfl), (lb rfl)⟩)
  dsimp only [Pt.U, Pt.locs, Pt.cells, Pt.slots] at X5 l5 y5 z5 st5 hQ5
  subst l5 y5 z5
  obtain ⟨rfl, Nq5, eq5⟩ := hQ5
  have N5 := Fr.app N3 Nq5
  refine og T5 (mkF m 16 #[vR ra0, vR ra1, vN, vR ra2, vI cn2] [.ref ra1]) (fun _ k => st5.trans (XS.istore X5.here hx rfl (hb hby d26_13) rfl (l' := #[vR ra0, vR ra1, vN, vR ra2, vI cn2]) rfl (qa X5 hx hby d26_15 rfl rfl rfl k))) ?_
  obtain ⟨_, T6, L6, X6, hQ6, st6⟩ := own_vc X5 hx hZ hown (ow hw 173) (ow hw 174) (ow hw 176) (ow hw 175) S_ra1.1 (rm30_25 l Z a0 hw ra1 G1 ((0 : Int32)) h0 n0 OLD O2 P5 Fc1) (ow hw 177) (ow hw 68) eq5 (g := (mkF m 16 #[vR ra0, vR ra1, vN, vR ra2, vI cn2] [.ref ra1])) rfl (zs hml) (argsL := []) (rest := []) (lenOf pd_12 rfl) rfl (hb hby d26_16) (W := 0) rfl
  rcases hQ6 with hQ6 | hQ6
  ·
   obtain ⟨hc7, rfl, Nq6, eq6⟩ := hQ6
   have N6 := Fr.app N5 Nq6
   refine og T6 (mkF m 24 #[vR ra0, vR ra1, vN, vR ra2, vI cn2] [.int 0, .ref ra0]) (fun _ k => st6.trans (XS.ifNo X6.here hx rfl (hb hby d26_19) rfl ((if0 _ _).trans (feq (by decide : ¬ ((1 : Int32) = (0 : Int32)))).1) (qa X6 hx hby d26_22 rfl rfl rfl (qc X6 hx hby d26_23 rfl k)))) ?_
   obtain ⟨T8, h8, X8, e8, W8, st8⟩ := putFN X6 hx hZ hown (ow hw 27) Via.refl eq6 B' A' (Or.inr ⟨(ow hw 28), rfl, hnm⟩) (ow hw 13) (ty := .byte) (v' := (.int (nar .byte (0 : Int32)))) (by decide) rfl (fits_nar_byte _) (g := (mkF m 24 #[vR ra0, vR ra1, vN, vR ra2, vI cn2] [.int 0, .ref ra0])) rfl rfl (hb hby d26_24)
   rw [show nar .byte (0 : Int32) = (0 : Int32) from rfl] at W8
   have Fw8 := B'.same W8
   have N8 := Fr.snoc X8 N6 E'
   refine og T8 (mkF m 32 #[vR ra0, vR ra1, vN, vR ra2, vI cn2] [.int cn2, .int 0, .ref ra2, .ref ra0]) (fun _ k => st8 _ (qa X8 hx hby d26_27 rfl rfl rfl (qa X8 hx hby d26_28 rfl rfl rfl (qc X8 hx hby d26_29 rfl (XS.iload X8.here hx rfl (hb hby d26_30) rfl k))))) ?_
   have F9 := (S_ra1.2.2.2.1.wr W8)
   have F10 := (Vc1.other W8 ne_ra2_ra0)
   have F11 := (OLD.wr W8 E')
   obtain ⟨_, T12, L12, X12, hQ12, st12⟩ := own_tc X8 hx hZ hown (ow hw 178) (ow hw 179) (rm31_59 l Z a0 hw ra2 kc1 cs3 (cn0.toNatClampNeg) cn1 ((0 : Int32)) cn2 h8 n0 F11 F9 (S_ra1.2.2.2.2.1) lc1 F10 hc7 hn9 hn10 hn11 hn12 hn13 hn14 hn15 hn16) (ow hw 180) (ow hw 141) e8 (g := (mkF m 32 #[vR ra0, vR ra1, vN, vR ra2, vI cn2] [.int cn2, .int 0, .ref ra2, .ref ra0])) rfl (zs hml) (argsL := [.ref ra2, .int 0, .int cn2]) (rest := [.ref ra0]) (lenOf pd_27 rfl) rfl (hb hby d26_32) (W := 1) rfl
   obtain ⟨o13, kc14, rfl, Nq12, K12, f15, f16, f17⟩ := hQ12
   have N12 := Fr.app N8 Nq12
   have g18 : n0 ≤ o13 := Nat.le_trans (own_osz F11) f15
   have F20 := (Nat.le_trans (Nat.le_refl _) (Nat.le_of_eq W8.size.symm))
   have z19 : h0.size ≤ o13 := Nat.le_trans F20 f15
   refine ot T12 (mkF m 35 #[vR ra0, vR ra1, vN, vR ra2, vI cn2] [.ref o13, .ref ra0]) st12 ?_
   have F21 := ((A'.wr W8).keep K12)
   have F22 := ((C'.other W8 (Or.inr (slot_ne (Or.inr (ow hw 26)) (Or.inr (ow hw 28)) (by decide) (t := (.array .byte)) (t' := .byte) (by decide) (by decide)))).keep K12 nin0)
   obtain ⟨T23, h23, X23, e23, W23, st23⟩ := putF X12 hx hZ hown (host := "") (Or.inl (ow hw 25)) Via.refl rfl F22 F21 (Or.inr ⟨(ow hw 26), rfl, hnm⟩) (ow hw 13) (ty := (.array .byte)) (by decide) rfl rfl (g := (mkF m 35 #[vR ra0, vR ra1, vN, vR ra2, vI cn2] [.ref o13, .ref ra0])) rfl rfl (hb hby d26_35)
   have Fw23 := F22.same W23
   have N23 := Fr.snoc X23 N12 E'
   refine og T23 (mkF m 97 #[vR ra0, vR ra1, vN, vR ra2, vI cn2] []) (fun _ k => st23 _ (XS.goto X23.here hx rfl (pc0 := 38) (pc' := 97) rfl (hb hby d26_38) (by decide) (by decide) k)) ?_
   have ne24 : ra0 ≠ o13 := (own_ne_lo (Nat.lt_of_lt_of_le A'.lt (Nat.le_of_eq W8.size.symm)) f15)
   have F25 := (f17.other W23 (Ne.symm ne24))
   have F27 := (F21.wr W23)
   have F28 := ((Fw8.keep K12 nin0).other W23 (Or.inr (slot_ne (Or.inr (ow hw 28)) (Or.inr (ow hw 26)) (by decide) (t := .byte) (t' := (.array .byte)) (by decide) (by decide))))
   have S26 : own_st Z h23 ra0 o13 cs3 cn0 := own_stL F27 Fw23 (S_ra1.2.2.2.2.1) F28 (own_castz hn17 F25) lc1
   have KEEP := ((((Keep.refl h0 [ra0]).wr W8 (Or.inl (List.mem_of_getElem? (i := 0) rfl))).trans K12 all0).wr W23 (Or.inl (List.mem_of_getElem? (i := 0) rfl)))
   exact own_leaveN X23 hlk (v := none) (fun _ => rfl) (lb rfl) (lb rfl) (by rw [e23]; exact ⟨o13, kc14, rfl, N23, KEEP, z19, S26⟩) (fun fs hr => X23.returnOut hx hret (hb hby d26_97) hr)
  ·
   exfalso
   obtain ⟨hd0, -⟩ := hQ6
   exact absurd hd0 (fun q => q (by decide : (0 : Int32) = (0 : Int32)))
 ·
  refine og s₁ (mkF m 1 #[vR ra0, vR ra1, vN, vU, vU] [.ref ra0]) (fun _ k => qa X0 hx hby d26_0 rfl rfl rfl k) ?_
  obtain ⟨T29, X29, e29, st29⟩ := initO X0 hx hZ hown (ow hw 22) (ow hw 23) (ow hw 24) e0 (g := (mkF m 1 #[vR ra0, vR ra1, vN, vU, vU] [.ref ra0])) rfl (zs hml) rfl (hb hby d26_1) (by decide) (W := 0) (lb rfl) (by decide)
  refine og T29 (mkF m 5 #[vR ra0, vR ra1, vN, vU, vU] [.ref ra1]) (fun _ k => st29 _ (qa X29 hx hby d26_4 rfl rfl rfl k)) ?_
  obtain ⟨_, T30, L30, X30, hQ30, st30⟩ := own_vc X29 hx hZ hown (ow hw 160) (ow hw 161) (ow hw 163) (ow hw 162) S_ra1.1 (rm27_56 l Z a0 hw ra1 ra2 h0 n0 OLD S_ra1.2.1) (ow hw 164) (ow hw 68) e29 (g := (mkF m 5 #[vR ra0, vR ra1, vN, vU, vU] [.ref ra1])) rfl (zs hml) (argsL := []) (rest := []) (lenOf pd_25 rfl) rfl (hb hby d26_5) (W := 0) rfl
  obtain ⟨rfl, Nq30, eq30⟩ := hQ30
  have N30 := Fr.app N0 Nq30
  refine og T30 (mkF m 10 #[vR ra0, vR ra1, vN, vR ra2, vU] [.ref ra1]) (fun _ k => st30.trans (XS.astoreN X30.here hx rfl (hb hby d26_8) rfl rfl (l' := #[vR ra0, vR ra1, vN, vR ra2, vU]) rfl (qa X30 hx hby d26_9 rfl rfl rfl k))) ?_
  obtain ⟨cq32, kq32, q32a, q32b, q32c⟩ := isOf hZ eq30 S_ra1.1
  obtain ⟨_, _, ⟨T32, L32, k32, n32⟩, -, X32, ⟨Lc32, hQ32, l32, y32, z32⟩, st32⟩ := X30.virtualBack hx (y := y34) (z := y35) hown (mvT hZ (ow hw 165)) (mvT hZ (ow hw 166)) (own_nf (args := #[]) (z := y12) (mvT hZ (ow hw 101)) rfl) (mvT hZ (ow hw 168)) (mvT hZ (ow hw 169)) (by decide) (backOf (W := 0) (rm28_57 l Z a0 hw ra1 cn2 h0 n0 OLD D' S_ra1.1) hZ (ow hw 170) (ow hw 60) (lb rfl) (lb rfl)) q32a q32c (g := (mkF m 10 #[vR ra0, vR ra1, vN, vR ra2, vU] [.ref ra1])) rfl (zs hml) (Steps.refl _) (argsL := []) (rest := []) (lenOf pd_9 rfl) rfl (lb rfl) (hb hby d26_10) (fun _ _ => ⟨rfl, eq30, (lb rfl), (lb rfl)⟩)
  dsimp only [Pt.U, Pt.locs, Pt.cells, Pt.slots] at X32 l32 y32 z32 st32 hQ32
  subst l32 y32 z32
  obtain ⟨rfl, Nq32, eq32⟩ := hQ32
  have N32 := Fr.app N30 Nq32
  refine og T32 (mkF m 16 #[vR ra0, vR ra1, vN, vR ra2, vI cn2] [.ref ra1]) (fun _ k => st32.trans (XS.istore X32.here hx rfl (hb hby d26_13) rfl (l' := #[vR ra0, vR ra1, vN, vR ra2, vI cn2]) rfl (qa X32 hx hby d26_15 rfl rfl rfl k))) ?_
  obtain ⟨_, T33, L33, X33, hQ33, st33⟩ := own_vc X32 hx hZ hown (ow hw 173) (ow hw 174) (ow hw 176) (ow hw 175) S_ra1.1 (rm30_25 l Z a0 hw ra1 G1 ((1 : Int32)) h0 n0 OLD O2 P5 Fc1) (ow hw 177) (ow hw 68) eq32 (g := (mkF m 16 #[vR ra0, vR ra1, vN, vR ra2, vI cn2] [.ref ra1])) rfl (zs hml) (argsL := []) (rest := []) (lenOf pd_12 rfl) rfl (hb hby d26_16) (W := 0) rfl
  rcases hQ33 with hQ33 | hQ33
  ·
   exfalso
   obtain ⟨hd0, -⟩ := hQ33
   exact absurd hd0 (by decide : ¬ ((1 : Int32) = (0 : Int32)))
  ·
   obtain ⟨hc34, rfl, Nq33, eq33⟩ := hQ33
   have N33 := Fr.app N32 Nq33
   refine og T33 (mkF m 41 #[vR ra0, vR ra1, vN, vR ra2, vI cn2] []) (fun _ k => st33.trans (XS.ifYes X33.here hx rfl (pc0 := 19) (pc' := 41) rfl (hb hby d26_19) rfl ((if0 _ _).trans (teq (by decide : (0 : Int32) = (0 : Int32))).1) (by decide) (by decide) k)) ?_
   obtain ⟨T35, X35, e35, st35⟩ := getS2 X33 hx hZ hown (host := "") (Or.inl (ow hw 7)) Via.refl eq33 (O2.ext OLD.2) (g := (mkF m 41 #[vR ra0, vR ra1, vN, vR ra2, vI cn2] [])) rfl (hb hby d26_41)
   refine og T35 (mkF m 48 #[vR ra0, vR ra1, vN, vR ra2, vI cn2] [.ref ra1]) (fun _ k => st35 _ (XS.ifNo X35.here hx rfl (hb hby d26_44) rfl ((if0 _ _).trans (feq P5).1) (qa X35 hx hby d26_47 rfl rfl rfl k))) ?_
   obtain ⟨T36, X36, e36, st36⟩ := getF X35 hx hZ hown (host := "") (Or.inl (ow hw 367)) Via.refl e35 S_ra1.2.2.1 (g := (mkF m 48 #[vR ra0, vR ra1, vN, vR ra2, vI cn2] [.ref ra1])) rfl rfl (hb hby d26_48)
   refine og T36 (mkF m 81 #[vR ra0, vR ra1, vN, vR ra2, vI cn2] [.int 1, .ref ra0]) (fun _ k => st36 _ (XS.ifYes X36.here hx rfl (pc0 := 51) (pc' := 79) rfl (hb hby d26_51) rfl ((if0 _ _).trans (teq (by decide : (0 : Int32) = (0 : Int32))).1) (by decide) (by decide) (qa X36 hx hby d26_79 rfl rfl rfl (qc X36 hx hby d26_80 rfl k)))) ?_
   obtain ⟨T37, h37, X37, e37, W37, st37⟩ := putFN X36 hx hZ hown (ow hw 27) Via.refl e36 B' A' (Or.inr ⟨(ow hw 28), rfl, hnm⟩) (ow hw 13) (ty := .byte) (v' := (.int (nar .byte (1 : Int32)))) (by decide) rfl (fits_nar_byte _) (g := (mkF m 81 #[vR ra0, vR ra1, vN, vR ra2, vI cn2] [.int 1, .ref ra0])) rfl rfl (hb hby d26_81)
   rw [show nar .byte (1 : Int32) = (1 : Int32) from rfl] at W37
   have Fw37 := B'.same W37
   have N37 := Fr.snoc X37 N33 E'
   refine og T37 (mkF m 91 #[vR ra0, vR ra1, vN, vR ra2, vI cn2] [(.int (cn2 <<< ((1 : Int32) &&& 31))), .int 0, .ref ra2, .ref ra0]) (fun _ k => st37 _ (qa X37 hx hby d26_84 rfl rfl rfl (qa X37 hx hby d26_85 rfl rfl rfl (qc X37 hx hby d26_86 rfl (XS.iload X37.here hx rfl (hb hby d26_87) rfl (qc X37 hx hby d26_89 rfl (XS.ishl X37.here hx rfl (hb hby d26_90) rfl k))))))) ?_
   have F38 := (S_ra1.2.2.2.1.wr W37)
   have F39 := (Vc1.other W37 ne_ra2_ra0)
   have F40 := (OLD.wr W37 E')
   obtain ⟨_, T41, L41, X41, hQ41, st41⟩ := own_tc X37 hx hZ hown (ow hw 178) (ow hw 179) (rm31_63 l Z a0 hw ra2 kc1 ((own_u cs3)) ((2 * cn0.toNatClampNeg)) ((cn1 <<< ((1 : Int32) &&& 31))) ((0 : Int32)) ((cn2 <<< ((1 : Int32) &&& 31))) h37 n0 F40 F38 (own_ul (S_ra1.2.2.2.2.1)) F39 (by decide : (0 : Int32) = (0 : Int32)) hn18 hn19 hn20 hn21 hn22 hn23 hn24 hn25) (ow hw 180) (ow hw 141) e37 (g := (mkF m 91 #[vR ra0, vR ra1, vN, vR ra2, vI cn2] [(.int (cn2 <<< ((1 : Int32) &&& 31))), .int 0, .ref ra2, .ref ra0])) rfl (zs hml) (argsL := [.ref ra2, .int 0, (.int (cn2 <<< ((1 : Int32) &&& 31)))]) (rest := [.ref ra0]) (lenOf pd_27 rfl) rfl (hb hby d26_91) (W := 1) rfl
   obtain ⟨o42, kc43, rfl, Nq41, K41, f44, f45, f46⟩ := hQ41
   have N41 := Fr.app N37 Nq41
   have g47 : n0 ≤ o42 := Nat.le_trans (own_osz F40) f44
   have F49 := (Nat.le_trans (Nat.le_refl _) (Nat.le_of_eq W37.size.symm))
   have z48 : h0.size ≤ o42 := Nat.le_trans F49 f44
   refine ot T41 (mkF m 94 #[vR ra0, vR ra1, vN, vR ra2, vI cn2] [.ref o42, .ref ra0]) st41 ?_
   have F50 := ((A'.wr W37).keep K41)
   have F51 := ((C'.other W37 (Or.inr (slot_ne (Or.inr (ow hw 26)) (Or.inr (ow hw 28)) (by decide) (t := (.array .byte)) (t' := .byte) (by decide) (by decide)))).keep K41 nin0)
   obtain ⟨T52, h52, X52, e52, W52, st52⟩ := putF X41 hx hZ hown (host := "") (Or.inl (ow hw 25)) Via.refl rfl F51 F50 (Or.inr ⟨(ow hw 26), rfl, hnm⟩) (ow hw 13) (ty := (.array .byte)) (by decide) rfl rfl (g := (mkF m 94 #[vR ra0, vR ra1, vN, vR ra2, vI cn2] [.ref o42, .ref ra0])) rfl rfl (hb hby d26_94)
   have Fw52 := F51.same W52
   have N52 := Fr.snoc X52 N41 E'
   refine og T52 (mkF m 97 #[vR ra0, vR ra1, vN, vR ra2, vI cn2] []) st52 ?_
   have ne53 : ra0 ≠ o42 := (own_ne_lo (Nat.lt_of_lt_of_le A'.lt (Nat.le_of_eq W37.size.symm)) f44)
   have F54 := (f46.other W52 (Ne.symm ne53))
   have F56 := (F50.wr W52)
   have F57 := ((Fw37.keep K41 nin0).other W52 (Or.inr (slot_ne (Or.inr (ow hw 28)) (Or.inr (ow hw 26)) (by decide) (t := .byte) (t' := (.array .byte)) (by decide) (by decide))))
   have S55 : own_st Z h52 ra0 o42 cs3 cn0 := own_stU F56 Fw52 (S_ra1.2.2.2.2.1) F57 (own_castz hn26 F54) lc1
   have KEEP := ((((Keep.refl h0 [ra0]).wr W37 (Or.inl (List.mem_of_getElem? (i := 0) rfl))).trans K41 all0).wr W52 (Or.inl (List.mem_of_getElem? (i := 0) rfl)))
   exact own_leaveN X52 hlk (v := none) (fun _ => rfl) (lb rfl) (lb rfl) (by rw [e52]; exact ⟨o42, kc43, rfl, N52, KEEP, z48, S55⟩) (fun fs hr => X52.returnOut hx hret (hb hby d26_97) hr)
abbrev R25_54 : Room := { frames := 4, cells := 1, slots := 400, locals := 65 }
def Q25_54 (Z : State) (ra0 ra1 ra2 : Addr) (cs3 : List Int32) (cn0 cn1 : Int32) (cn2 G1 : Int32) (h0 : Heap) (n0 : Nat) (v : Option Value) (h : Heap) (L : List Loc) : Prop := (∃ (o2 : Addr), v = none ∧ Fr n0 L ∧ Keep h0 h [ra0] ∧ h0.size ≤ o2 ∧ own_st Z h ra0 o2 cs3 cn0)
theorem rm25_54 l Z a0 (hw : HW Z a0) ra0 ra1 ra2 (cs3 : List Int32) (cn0 : Int32) (cn1 : Int32) (cn2 : Int32) (G1 : Int32) h0 n0 (OLD : Old Z n0 h0) (A' : Exa Z h0 ra0 cN1) (B' : Fld Z h0 ra0 cN1 "coder" "B" (.int 0)) (C' : Fld Z h0 ra0 cN1 "value" "[B" .null) (S_ra1 : own_sb Z h0 ra1 ra2 cs3 cn0 cn1) (D' : Fld Z h0 ra1 cN0 "count" "I" (.int cn2)) (O2 : Sta Z Z.heap cN1 "COMPACT_STRINGS" "Z" (.int G1)) (P5 : ¬ (G1 = (0 : Int32))) (E' : n0 ≤ ra0) (ne_ra2_ra0 : ra2 ≠ ra0) (hn9 : ¬ (cn2 = cn1)) (hn10 : ¬ (cn2 < (0 : Int32))) (hn11 : ¬ ((cn2 - (0 : Int32)) < (0 : Int32))) (hn12 : (cn2 - (0 : Int32)).toNatClampNeg ≤ 400) (hn13 : (cn2 - (0 : Int32)) < (cn1 - (0 : Int32))) (hn14 : (cn2 - (0 : Int32)).toNatClampNeg ≤ cn1.toNatClampNeg) (hn15 : (0 : Int32).toNatClampNeg + (cn2 - (0 : Int32)).toNatClampNeg ≤ (cn2 - (0 : Int32)).toNatClampNeg) (hn16 : cn0.toNatClampNeg ≤ (cn2 - (0 : Int32)).toNatClampNeg) (hn17 : (cn2 - (0 : Int32)) = cn0) (hn18 : ¬ ((cn2 <<< ((1 : Int32) &&& 31)) = (cn1 <<< ((1 : Int32) &&& 31)))) (hn19 : ¬ ((cn2 <<< ((1 : Int32) &&& 31)) < (0 : Int32))) (hn20 : ¬ (((cn2 <<< ((1 : Int32) &&& 31)) - (0 : Int32)) < (0 : Int32))) (hn21 : ((cn2 <<< ((1 : Int32) &&& 31)) - (0 : Int32)).toNatClampNeg ≤ 400) (hn22 : ((cn2 <<< ((1 : Int32) &&& 31)) - (0 : Int32)) < ((cn1 <<< ((1 : Int32) &&& 31)) - (0 : Int32))) (hn23 : ((cn2 <<< ((1 : Int32) &&& 31)) - (0 : Int32)).toNatClampNeg ≤ (cn1 <<< ((1 : Int32) &&& 31)).toNatClampNeg) (hn24 : (0 : Int32).toNatClampNeg + ((cn2 <<< ((1 : Int32) &&& 31)) - (0 : Int32)).toNatClampNeg ≤ ((cn2 <<< ((1 : Int32) &&& 31)) - (0 : Int32)).toNatClampNeg) (hn25 : (2 * cn0.toNatClampNeg) ≤ ((cn2 <<< ((1 : Int32) &&& 31)) - (0 : Int32)).toNatClampNeg) (hn26 : ((cn2 <<< ((1 : Int32) &&& 31)) - (0 : Int32)) = (cn0 <<< ((1 : Int32) &&& 31))) :
  own_CN l Z y40 jdk_42_method_53_code 2 none [] R25_54 #[.ref ra0, .ref ra1] h0 (Q25_54 Z ra0 ra1 ra2 cs3 cn0 cn1 cn2 G1 h0 n0) := by
 refine own_entryN (plainFor_of_name pn_2) fun p e s m below meth c s₁ hx hby hml hown hnm hret hlk hZ hh X0 e0 => ?_
 have N0 := Fr.nil n0
 rw [ef_17_21 m ra0 ra1]
 refine og s₁ (mkF m 3 #[vR ra0, vR ra1] [.null, .ref ra1, .ref ra0]) (fun _ k => qa X0 hx hby d25_0 rfl rfl rfl (qa X0 hx hby d25_1 rfl rfl rfl (XS.aconstNull X0.here hx rfl (hb hby d25_2) k))) ?_
 obtain ⟨_, T1, L1, X1, hQ1, st1⟩ := own_sc X0 hx hZ rfl hown (ow hw 157) (ow hw 158) (rm26_55 l Z a0 hw ra0 ra1 ra2 cs3 cn0 cn1 cn2 G1 h0 n0 OLD A' B' C' S_ra1 D' O2 P5 E' ne_ra2_ra0 ⟨hn9, hn10, hn11, hn12, hn13, hn14, hn15, hn16, hn17, hn18, hn19, hn20, hn21, hn22, hn23, hn24, hn25, hn26⟩) (ow hw 159) (ow hw 5) e0 (g := (mkF m 3 #[vR ra0, vR ra1] [.null, .ref ra1, .ref ra0])) rfl (zs hml) (argsL := [.ref ra1, .null]) (rest := []) (lenOf pd_28 rfl) rfl (hb hby d25_3) (W := 0) rfl
 obtain ⟨o2, kc3, rfl, Nq1, K1, f4, f5⟩ := hQ1
 have N1 := Fr.app N0 Nq1
 have g6 : n0 ≤ o2 := Nat.le_trans (own_osz OLD) f4
 have z7 : h0.size ≤ o2 := Nat.le_trans (Nat.le_refl _) f4
 refine ot T1 (mkF m 6 #[vR ra0, vR ra1] []) st1 ?_
 have KEEP := ((Keep.refl h0 [ra0]).trans K1 (allS (Or.inl (List.mem_of_getElem? (i := 0) rfl)) all0))
 exact own_leaveN X1 hlk (v := none) (fun _ => rfl) (lb rfl) (lb rfl) (by exact ⟨o2, rfl, N1, KEEP, z7, f5⟩) (fun fs hr => X1.returnOut hx hret (hb hby d25_6) hr)
abbrev R24_53 : Room := { frames := 5, cells := 2, slots := 404, locals := 79 }
def Q24_53 (Z : State) (ra0 ra1 : Addr) (cs2 : List Int32) (cn0 cn1 : Int32) (cn2 G1 : Int32) (h0 : Heap) (n0 : Nat) (v : Option Value) (h : Heap) (L : List Loc) : Prop := (∃ (b1 o8 : Addr), v = some (.ref b1) ∧ Fr n0 L ∧ Keep h0 h [] ∧ h0.size ≤ b1 ∧ h0.size ≤ o8 ∧ own_st Z h b1 o8 cs2 cn0)
theorem rm24_53 l Z a0 (hw : HW Z a0) ra0 ra1 (cs2 : List Int32) (cn0 : Int32) (cn1 : Int32) (cn2 : Int32) (G1 : Int32) h0 n0 (OLD : Old Z n0 h0) (S_ra0 : own_sb Z h0 ra0 ra1 cs2 cn0 cn1) (A' : Fld Z h0 ra0 cN0 "count" "I" (.int cn2)) (O2 : Sta Z Z.heap cN1 "COMPACT_STRINGS" "Z" (.int G1)) (P5 : ¬ (G1 = (0 : Int32))) (hn4 : ¬ (cn2 = cn1)) (hn5 : ¬ (cn2 < (0 : Int32))) (hn6 : ¬ ((cn2 - (0 : Int32)) < (0 : Int32))) (hn7 : (cn2 - (0 : Int32)).toNatClampNeg ≤ 400) (hn8 : (cn2 - (0 : Int32)) < (cn1 - (0 : Int32))) (hn9 : (cn2 - (0 : Int32)).toNatClampNeg ≤ cn1.toNatClampNeg) (hn10 : (0 : Int32).toNatClampNeg + (cn2 - (0 : Int32)).toNatClampNeg ≤ (cn2 - (0 : Int32)).toNatClampNeg) (hn11 : cn0.toNatClampNeg ≤ (cn2 - (0 : Int32)).toNatClampNeg) (hn12 : (cn2 - (0 : Int32)) = cn0) (hn13 : ¬ ((cn2 <<< ((1 : Int32) &&& 31)) = (cn1 <<< ((1 : Int32) &&& 31)))) (hn14 : ¬ ((cn2 <<< ((1 : Int32) &&& 31)) < (0 : Int32))) (hn15 : ¬ (((cn2 <<< ((1 : Int32) &&& 31)) - (0 : Int32)) < (0 : Int32))) (hn16 : ((cn2 <<< ((1 : Int32) &&& 31)) - (0 : Int32)).toNatClampNeg ≤ 400) (hn17 : ((cn2 <<< ((1 : Int32) &&& 31)) - (0 : Int32)) < ((cn1 <<< ((1 : Int32) &&& 31)) - (0 : Int32))) (hn18 : ((cn2 <<< ((1 : Int32) &&& 31)) - (0 : Int32)).toNatClampNeg ≤ (cn1 <<< ((1 : Int32) &&& 31)).toNatClampNeg) (hn19 : (0 : Int32).toNatClampNeg + ((cn2 <<< ((1 : Int32) &&& 31)) - (0 : Int32)).toNatClampNeg ≤ ((cn2 <<< ((1 : Int32) &&& 31)) - (0 : Int32)).toNatClampNeg) (hn20 : (2 * cn0.toNatClampNeg) ≤ ((cn2 <<< ((1 : Int32) &&& 31)) - (0 : Int32)).toNatClampNeg) (hn21 : ((cn2 <<< ((1 : Int32) &&& 31)) - (0 : Int32)) = (cn0 <<< ((1 : Int32) &&& 31))) :
  own_CN l Z y41 jdk_67_method_42_code 1 (some (.object cN1)) [] R24_53 #[.ref ra0] h0 (Q24_53 Z ra0 ra1 cs2 cn0 cn1 cn2 G1 h0 n0) := by
 refine own_entryN (plainFor_of_name pn_6) fun p e s m below meth c s₁ hx hby hml hown hnm hret hlk hZ hh X0 e0 => ?_
 have N0 := Fr.nil n0
 rw [ef_7_11 m ra0]
 obtain ⟨T1, h1, X1, e1, E1, A1, D1, U1, st1⟩ := newO X0 hx hZ hown (ow hw 153) (ow hw 13) (ow hw 5) e0 (g := (mkF m 0 #[vR ra0] [])) rfl (hb hby d24_0) (lb rfl) (lb rfl)
 obtain ⟨b1, gb1⟩ : ∃ z, z = h0.size := ⟨_, rfl⟩
 rw [← gb1] at A1 D1 U1 st1
 have g2 : n0 ≤ b1 := Nat.le_trans (own_osz OLD) (Nat.le_of_eq gb1.symm)
 have z3 : h0.size ≤ b1 := Nat.le_trans (Nat.le_refl _) (Nat.le_of_eq gb1.symm)
 refine og T1 (mkF m 5 #[vR ra0] [.ref ra0, .ref b1, .ref b1]) (fun _ k => st1 _ (XS.dup X1.here hx rfl (hb hby d24_3) rfl rfl (qa X1 hx hby d24_4 rfl rfl rfl k))) ?_
 have F4 := (S_ra0.ext E1)
 have F5 := (A'.ext E1)
 have F6 := (OLD.ext E1)
 obtain ⟨_, T7, L7, X7, hQ7, st7⟩ := own_sc X1 hx hZ rfl hown (ow hw 154) (ow hw 155) (rm25_54 l Z a0 hw b1 ra0 ra1 cs2 cn0 cn1 cn2 G1 h1 n0 F6 A1 (D1 (Or.inr (ow hw 28)) (ty := .byte) (by decide)) (D1 (Or.inr (ow hw 26)) (ty := (.array .byte)) (by decide)) F4 F5 O2 P5 g2 (own_ne_lo S_ra0.ltb (Nat.le_of_eq gb1.symm)) hn4 hn5 hn6 hn7 hn8 hn9 hn10 hn11 hn12 hn13 hn14 hn15 hn16 hn17 hn18 hn19 hn20 hn21) (ow hw 156) (ow hw 5) e1 (g := (mkF m 5 #[vR ra0] [.ref ra0, .ref b1, .ref b1])) rfl (zs hml) (argsL := [.ref ra0]) (rest := [.ref b1]) (lenOf pd_29 rfl) rfl (hb hby d24_5) (W := 1) rfl
 obtain ⟨o8, rfl, Nq7, K7, f9, f10⟩ := hQ7
 have N7 := Fr.app N0 Nq7
 have g11 : n0 ≤ o8 := Nat.le_trans (own_osz F6) f9
 have F13 := (Nat.le_trans (Nat.le_refl _) E1.1)
 have z12 : h0.size ≤ o8 := Nat.le_trans F13 f9
 refine ot T7 (mkF m 8 #[vR ra0] [.ref b1]) st7 ?_
 have KEEP := (((Keep.refl h0 []).ext E1).trans K7 (allS (Or.inr z3) all0))
 exact own_leaveN X7 hlk (v := some (.ref b1)) (own_nr hret) (lb rfl) (lb rfl) (by exact ⟨b1, o8, rfl, N7, KEEP, z3, z12, f10⟩) (own_ra X7 hx hret rfl rfl rfl (hb hby d24_8))
abbrev R21_73 : Room := { frames := 0, cells := 0, slots := 0, locals := 0 }
def Q21_73 (Z : State) (cn0 cn1 : Int32) (h0 : Heap) (n0 : Nat) (v : Option Value) (h : Heap) (L : List Loc) : Prop := (v = some (.int cn0) ∧ Fr n0 L ∧ h = h0)
theorem rm21_73 l Z a0 (hw : HW Z a0) (cn0 : Int32) (cn1 : Int32) h0 n0 (OLD : Old Z n0 h0) (hn0 : ¬ (cn0 < cn1)) :
  own_CN l Z y28 jdk_29_method_65_code 2 (some .int) [] R21_73 #[.int cn0, .int cn1] h0 (Q21_73 Z cn0 cn1 h0 n0) := by
 refine own_entryN (Jvm.Free.JP.mathPlain rfl (by decide +kernel)) fun p e s m below meth c s₁ hx hby hml hown hnm hret hlk hZ hh X0 e0 => ?_
 have N0 := Fr.nil n0
 rw [ef_21_48 m cn0 cn1]
 refine og s₁ (mkF m 10 #[vI cn0, vI cn1] [.int cn0]) (fun _ k => qi X0 hx hby d21_0 rfl rfl (qi X0 hx hby d21_1 rfl rfl (qn X0 hx hby d21_2 rfl rfl (flt hn0).1 (qi X0 hx hby d21_5 rfl rfl (XS.goto X0.here hx rfl (pc0 := 6) (pc' := 10) rfl (hb hby d21_6) (by decide) (by decide) k))))) ?_
 exact own_leaveN X0 hlk (v := some (.int cn0)) (own_nr hret) (lb rfl) (lb rfl) (by rw [e0]; exact ⟨rfl, N0, rfl⟩) (fun fs hr => retI X0 hx hret (hb hby d21_10) hr)
abbrev R20_72 : Room := { frames := 1, cells := 0, slots := 0, locals := 14 }
def Q20_72 (Z : State) (cn0 cn1 cn2 : Int32) (h0 : Heap) (n0 : Nat) (v : Option Value) (h : Heap) (L : List Loc) : Prop := (v = some (.int (cn0 + cn1)) ∧ Fr n0 L ∧ h = h0)
theorem rm20_72 l Z a0 (hw : HW Z a0) (cn0 : Int32) (cn1 : Int32) (cn2 : Int32) h0 n0 (OLD : Old Z n0 h0) (hn0 : ¬ (cn1 < cn2)) (hn1 : (0 : Int32) < (cn0 + cn1)) (hn2 : ¬ ((2147483639 : Int32) < (cn0 + cn1))) :
  own_CN l Z y29 jdk_48_method_27_code 4 (some .int) [] R20_72 #[.int cn0, .int cn1, .int cn2] h0 (Q20_72 Z cn0 cn1 cn2 h0 n0) := by
 refine own_entryN (plainFor_of_name pn_8) fun p e s m below meth c s₁ hx hby hml hown hnm hret hlk hZ hh X0 e0 => ?_
 have N0 := Fr.nil n0
 rw [ef_20_47 m cn0 cn1 cn2]
 refine og s₁ (mkF m 3 #[vI cn0, vI cn1, vI cn2, vU] [.int cn2, .int cn1, .int cn0]) (fun _ k => qi X0 hx hby d20_0 rfl rfl (qi X0 hx hby d20_1 rfl rfl (qi X0 hx hby d20_2 rfl rfl k))) ?_
 obtain ⟨_, T1, L1, X1, hQ1, st1⟩ := own_tc X0 hx hZ hown (ow hw 133) (ow hw 134) (rm21_73 l Z a0 hw cn1 cn2 h0 n0 OLD hn0) (ow hw 136) (ow hw 135) e0 (g := (mkF m 3 #[vI cn0, vI cn1, vI cn2, vU] [.int cn2, .int cn1, .int cn0])) rfl (zs hml) (argsL := [.int cn1, .int cn2]) (rest := [.int cn0]) (lenOf pd_23 rfl) rfl (hb hby d20_3) (W := 1) rfl
 obtain ⟨rfl, Nq1, eq1⟩ := hQ1
 have N1 := Fr.app N0 Nq1
 refine og T1 (mkF m 14 #[vI cn0, vI cn1, vI cn2, vI (cn0 + cn1)] [(.int (cn0 + cn1))]) (fun _ k => st1.trans (qp X1 hx hby d20_6 rfl rfl (XS.istoreN X1.here hx rfl (hb hby d20_7) rfl (l' := #[vI cn0, vI cn1, vI cn2, vI (cn0 + cn1)]) rfl (qc X1 hx hby d20_8 rfl (qi X1 hx hby d20_9 rfl rfl (qn X1 hx hby d20_10 rfl rfl (tlt hn1).2.1 (qi X1 hx hby d20_13 rfl rfl k))))))) ?_
 refine og T1 (mkF m 16 #[vI cn0, vI cn1, vI cn2, vI (cn0 + cn1)] [.int 2147483639, (.int (cn0 + cn1))]) (fun t k => X1.ldcInt hx hown (mvT hZ (ow hw 137)) (g := (mkF m 14 #[vI cn0, vI cn1, vI cn2, vI (cn0 + cn1)] [(.int (cn0 + cn1))])) rfl (hb hby d20_14) t k) ?_
 refine og T1 (mkF m 20 #[vI cn0, vI cn1, vI cn2, vI (cn0 + cn1)] [(.int (cn0 + cn1))]) (fun _ k => qn X1 hx hby d20_16 rfl rfl (flt hn2).2.2.1 (qi X1 hx hby d20_19 rfl rfl k)) ?_
 exact own_leaveN X1 hlk (v := some (.int (cn0 + cn1))) (own_nr hret) (lb rfl) (lb rfl) (by rw [eq1]; exact ⟨rfl, N1, rfl⟩) (fun fs hr => retI X1 hx hret (hb hby d20_20) hr)
abbrev R19_71 : Room := { frames := 2, cells := 0, slots := 0, locals := 29 }
def Q19_71 (Z : State) (ra0 : Addr) (cn0 : Int32) (ra1 : Addr) (kc2 : ClassId) (cs3 : List Int32) (nl3 : Nat) (cn2 cn3 : Int32) (h0 : Heap) (n0 : Nat) (v : Option Value) (h : Heap) (L : List Loc) : Prop := (v = some (.int ((cn2 + ((cn3 <<< ((0 : Int32) &&& 31)) - cn2)) >>> ((0 : Int32) &&& 31))) ∧ Fr n0 L ∧ h = h0)
theorem rm19_71 l Z a0 (hw : HW Z a0) ra0 (cn0 : Int32) ra1 kc2 (cs3 : List Int32) nl3 (cn2 : Int32) (cn3 : Int32) h0 n0 (OLD : Old Z n0 h0) (A' : Exa Z h0 ra0 cN6) (B' : Fld Z h0 ra0 cN0 "coder" "B" (.int 0)) (C' : Fld Z h0 ra0 cN0 "count" "I" (.int cn0)) (D' : Fld Z h0 ra0 cN0 "maybeLatin1" "Z" (.int 0)) (E' : Fld Z h0 ra0 cN0 "value" "[B" (.ref ra1)) (F' : Exa Z h0 ra1 "[B") (G' : cs3.length = nl3) (H' : own_L cs3) (I' : Arv Z h0 ra1 kc2 .byte cn2 (own_by cs3) (.int 0)) (hn9 : ¬ (((cn3 <<< ((0 : Int32) &&& 31)) - cn2) < (cn2 + (2 : Int32)))) (hn10 : (0 : Int32) < (cn2 + ((cn3 <<< ((0 : Int32) &&& 31)) - cn2))) (hn11 : ¬ ((2147483639 : Int32) < (cn2 + ((cn3 <<< ((0 : Int32) &&& 31)) - cn2)))) (hn12 : ¬ ((cn2 + ((cn3 <<< ((0 : Int32) &&& 31)) - cn2)) = (2147483647 : Int32))) :
  own_CN l Z y30 jdk_68_method_10_code 6 (some .int) [] R19_71 #[.ref ra0, .int cn3] h0 (Q19_71 Z ra0 cn0 ra1 kc2 cs3 nl3 cn2 cn3 h0 n0) := by
 refine own_entryN (plainFor_of_name pn_5) fun p e s m below meth c s₁ hx hby hml hown hnm hret hlk hZ hh X0 e0 => ?_
 have N0 := Fr.nil n0
 rw [ef_19_46 m ra0 cn3]
 refine og s₁ (mkF m 1 #[vR ra0, vI cn3, vU, vU, vU, vU] [.ref ra0]) (fun _ k => qa X0 hx hby d19_0 rfl rfl rfl k) ?_
 obtain ⟨T1, X1, e1, st1⟩ := qf X0 hx hZ hown (ow hw 72) e0 E' (g := (mkF m 1 #[vR ra0, vI cn3, vU, vU, vU, vU] [.ref ra0])) rfl rfl hby d19_1
 refine og T1 (mkF m 4 #[vR ra0, vI cn3, vU, vU, vU, vU] [.ref ra1]) st1 ?_
 obtain ⟨cl2, Ar2, -, Sr2, Nr2, -, -⟩ := id I'
 refine og T1 (mkF m 5 #[vR ra0, vI cn3, vU, vU, vU, vU] [.int cn2]) (fun t k => X1.arraylength hx (by rw [e1]; exact Ar2.1) (State.isArrayOf_alike hZ.alike Ar2.2.1) (g := (mkF m 4 #[vR ra0, vI cn3, vU, vU, vU, vU] [.ref ra1])) rfl rfl (hb hby d19_4) t (by rw [len_of Sr2 Nr2]; exact k)) ?_
 refine og T1 (mkF m 8 #[vR ra0, vI cn3, vI cn2, vU, vU, vU] [.ref ra0, .int cn3]) (fun _ k => XS.istoreN X1.here hx rfl (hb hby d19_5) rfl (l' := #[vR ra0, vI cn3, vI cn2, vU, vU, vU]) rfl (qi X1 hx hby d19_6 rfl rfl (qa X1 hx hby d19_7 rfl rfl rfl k))) ?_
 obtain ⟨T3, X3, e3, st3⟩ := qf X1 hx hZ hown (ow hw 74) e1 B' (g := (mkF m 8 #[vR ra0, vI cn3, vI cn2, vU, vU, vU] [.ref ra0, .int cn3])) rfl rfl hby d19_8
 refine og T3 (mkF m 23 #[vR ra0, vI cn3, vI cn2, vI (cn3 <<< ((0 : Int32) &&& 31)), vI ((cn3 <<< ((0 : Int32) &&& 31)) - cn2), vU] [.int 2, .int cn2, (.int ((cn3 <<< ((0 : Int32) &&& 31)) - cn2)), .int cn2]) (fun _ k => st3 _ (XS.ishl X3.here hx rfl (hb hby d19_11) rfl (XS.istoreN X3.here hx rfl (hb hby d19_12) rfl (l' := #[vR ra0, vI cn3, vI cn2, vI (cn3 <<< ((0 : Int32) &&& 31)), vU, vU]) rfl (qi X3 hx hby d19_13 rfl rfl (qi X3 hx hby d19_14 rfl rfl (XS.isub X3.here hx rfl (hb hby d19_15) rfl (XS.istore X3.here hx rfl (hb hby d19_16) rfl (l' := #[vR ra0, vI cn3, vI cn2, vI (cn3 <<< ((0 : Int32) &&& 31)), vI ((cn3 <<< ((0 : Int32) &&& 31)) - cn2), vU]) rfl (qi X3 hx hby d19_18 rfl rfl (XS.iload X3.here hx rfl (hb hby d19_19) rfl (qi X3 hx hby d19_21 rfl rfl (qc X3 hx hby d19_22 rfl k))))))))))) ?_
 refine og T3 (mkF m 24 #[vR ra0, vI cn3, vI cn2, vI (cn3 <<< ((0 : Int32) &&& 31)), vI ((cn3 <<< ((0 : Int32) &&& 31)) - cn2), vU] [.ref ra0, .int 2, .int cn2, (.int ((cn3 <<< ((0 : Int32) &&& 31)) - cn2)), .int cn2]) (fun _ k => qa X3 hx hby d19_23 rfl rfl rfl k) ?_
 obtain ⟨T4, X4, e4, st4⟩ := qf X3 hx hZ hown (ow hw 74) e3 B' (g := (mkF m 24 #[vR ra0, vI cn3, vI cn2, vI (cn3 <<< ((0 : Int32) &&& 31)), vI ((cn3 <<< ((0 : Int32) &&& 31)) - cn2), vU] [.ref ra0, .int 2, .int cn2, (.int ((cn3 <<< ((0 : Int32) &&& 31)) - cn2)), .int cn2])) rfl rfl hby d19_24
 refine og T4 (mkF m 28 #[vR ra0, vI cn3, vI cn2, vI (cn3 <<< ((0 : Int32) &&& 31)), vI ((cn3 <<< ((0 : Int32) &&& 31)) - cn2), vU] [.int 2, .int cn2, (.int ((cn3 <<< ((0 : Int32) &&& 31)) - cn2)), .int cn2]) (fun _ k => st4 _ (XS.ishl X4.here hx rfl (hb hby d19_27) rfl (by rw [show ((2 : Int32) <<< ((0 : Int32) &&& 31)) = (2 : Int32) from by decide]; exact k))) ?_
 refine og T4 (mkF m 29 #[vR ra0, vI cn3, vI cn2, vI (cn3 <<< ((0 : Int32) &&& 31)), vI ((cn3 <<< ((0 : Int32) &&& 31)) - cn2), vU] [(.int (cn2 + (2 : Int32))), (.int ((cn3 <<< ((0 : Int32) &&& 31)) - cn2)), .int cn2]) (fun _ k => qp X4 hx hby d19_28 rfl rfl k) ?_
 obtain ⟨_, T5, L5, X5, hQ5, st5⟩ := own_tc X4 hx hZ hown (ow hw 129) (ow hw 130) (rm20_72 l Z a0 hw cn2 (((cn3 <<< ((0 : Int32) &&& 31)) - cn2)) ((cn2 + (2 : Int32))) h0 n0 OLD hn9 hn10 hn11) (ow hw 132) (ow hw 131) e4 (g := (mkF m 29 #[vR ra0, vI cn3, vI cn2, vI (cn3 <<< ((0 : Int32) &&& 31)), vI ((cn3 <<< ((0 : Int32) &&& 31)) - cn2), vU] [(.int (cn2 + (2 : Int32))), (.int ((cn3 <<< ((0 : Int32) &&& 31)) - cn2)), .int cn2])) rfl (zs hml) (argsL := [.int cn2, (.int ((cn3 <<< ((0 : Int32) &&& 31)) - cn2)), (.int (cn2 + (2 : Int32)))]) (rest := []) (lenOf pd_17 rfl) rfl (hb hby d19_29) (W := 0) rfl
 obtain ⟨rfl, Nq5, eq5⟩ := hQ5
 have N5 := Fr.app N0 Nq5
 refine og T5 (mkF m 36 #[vR ra0, vI cn3, vI cn2, vI (cn3 <<< ((0 : Int32) &&& 31)), vI ((cn3 <<< ((0 : Int32) &&& 31)) - cn2), vI (cn2 + ((cn3 <<< ((0 : Int32) &&& 31)) - cn2))] [(.int (cn2 + ((cn3 <<< ((0 : Int32) &&& 31)) - cn2)))]) (fun _ k => st5.trans (XS.istore X5.here hx rfl (hb hby d19_32) rfl (l' := #[vR ra0, vI cn3, vI cn2, vI (cn3 <<< ((0 : Int32) &&& 31)), vI ((cn3 <<< ((0 : Int32) &&& 31)) - cn2), vI (cn2 + ((cn3 <<< ((0 : Int32) &&& 31)) - cn2))]) rfl (XS.iload X5.here hx rfl (hb hby d19_34) rfl k))) ?_
 refine og T5 (mkF m 38 #[vR ra0, vI cn3, vI cn2, vI (cn3 <<< ((0 : Int32) &&& 31)), vI ((cn3 <<< ((0 : Int32) &&& 31)) - cn2), vI (cn2 + ((cn3 <<< ((0 : Int32) &&& 31)) - cn2))] [.int 2147483647, (.int (cn2 + ((cn3 <<< ((0 : Int32) &&& 31)) - cn2)))]) (fun t k => X5.ldcInt hx hown (mvT hZ (ow hw 138)) (g := (mkF m 36 #[vR ra0, vI cn3, vI cn2, vI (cn3 <<< ((0 : Int32) &&& 31)), vI ((cn3 <<< ((0 : Int32) &&& 31)) - cn2), vI (cn2 + ((cn3 <<< ((0 : Int32) &&& 31)) - cn2))] [(.int (cn2 + ((cn3 <<< ((0 : Int32) &&& 31)) - cn2)))])) rfl (hb hby d19_36) t k) ?_
 refine og T5 (mkF m 54 #[vR ra0, vI cn3, vI cn2, vI (cn3 <<< ((0 : Int32) &&& 31)), vI ((cn3 <<< ((0 : Int32) &&& 31)) - cn2), vI (cn2 + ((cn3 <<< ((0 : Int32) &&& 31)) - cn2))] [.ref ra0, (.int (cn2 + ((cn3 <<< ((0 : Int32) &&& 31)) - cn2)))]) (fun _ k => XS.icmpYes X5.here hx rfl (pc0 := 38) (pc' := 51) rfl (hb hby d19_38) rfl (feq hn12).2 (by decide) (by decide) (XS.iload X5.here hx rfl (hb hby d19_51) rfl (qa X5 hx hby d19_53 rfl rfl rfl k))) ?_
 obtain ⟨T6, X6, e6, st6⟩ := qf X5 hx hZ hown (ow hw 74) eq5 B' (g := (mkF m 54 #[vR ra0, vI cn3, vI cn2, vI (cn3 <<< ((0 : Int32) &&& 31)), vI ((cn3 <<< ((0 : Int32) &&& 31)) - cn2), vI (cn2 + ((cn3 <<< ((0 : Int32) &&& 31)) - cn2))] [.ref ra0, (.int (cn2 + ((cn3 <<< ((0 : Int32) &&& 31)) - cn2)))])) rfl rfl hby d19_54
 refine og T6 (mkF m 58 #[vR ra0, vI cn3, vI cn2, vI (cn3 <<< ((0 : Int32) &&& 31)), vI ((cn3 <<< ((0 : Int32) &&& 31)) - cn2), vI (cn2 + ((cn3 <<< ((0 : Int32) &&& 31)) - cn2))] [(.int ((cn2 + ((cn3 <<< ((0 : Int32) &&& 31)) - cn2)) >>> ((0 : Int32) &&& 31)))]) (fun _ k => st6 _ (XS.ishr X6.here hx rfl (hb hby d19_57) rfl k)) ?_
 exact own_leaveN X6 hlk (v := some (.int ((cn2 + ((cn3 <<< ((0 : Int32) &&& 31)) - cn2)) >>> ((0 : Int32) &&& 31)))) (own_nr hret) (lb rfl) (lb rfl) (by rw [e6]; exact ⟨rfl, N5, rfl⟩) (fun fs hr => retI X6 hx hret (hb hby d19_58) hr)
abbrev R19_74 : Room := { frames := 2, cells := 0, slots := 0, locals := 29 }
def Q19_74 (Z : State) (ra0 : Addr) (cn0 : Int32) (ra1 : Addr) (kc2 : ClassId) (cs3 : List Int32) (nl3 : Nat) (cn2 cn3 : Int32) (h0 : Heap) (n0 : Nat) (v : Option Value) (h : Heap) (L : List Loc) : Prop := (v = some (.int ((cn2 + ((cn3 <<< ((1 : Int32) &&& 31)) - cn2)) >>> ((1 : Int32) &&& 31))) ∧ Fr n0 L ∧ h = h0)
theorem rm19_74 l Z a0 (hw : HW Z a0) ra0 (cn0 : Int32) ra1 kc2 (cs3 : List Int32) nl3 (cn2 : Int32) (cn3 : Int32) h0 n0 (OLD : Old Z n0 h0) (A' : Exa Z h0 ra0 cN6) (B' : Fld Z h0 ra0 cN0 "coder" "B" (.int 1)) (C' : Fld Z h0 ra0 cN0 "count" "I" (.int cn0)) (D' : Fld Z h0 ra0 cN0 "maybeLatin1" "Z" (.int 0)) (E' : Fld Z h0 ra0 cN0 "value" "[B" (.ref ra1)) (F' : Exa Z h0 ra1 "[B") (G' : cs3.length = nl3) (H' : Arv Z h0 ra1 kc2 .byte cn2 (own_by cs3) (.int 0)) (hn8 : ¬ (((cn3 <<< ((1 : Int32) &&& 31)) - cn2) < (cn2 + (4 : Int32)))) (hn9 : (0 : Int32) < (cn2 + ((cn3 <<< ((1 : Int32) &&& 31)) - cn2))) (hn10 : ¬ ((2147483639 : Int32) < (cn2 + ((cn3 <<< ((1 : Int32) &&& 31)) - cn2)))) (hn11 : ¬ ((cn2 + ((cn3 <<< ((1 : Int32) &&& 31)) - cn2)) = (2147483647 : Int32))) :
  own_CN l Z y30 jdk_68_method_10_code 6 (some .int) [] R19_74 #[.ref ra0, .int cn3] h0 (Q19_74 Z ra0 cn0 ra1 kc2 cs3 nl3 cn2 cn3 h0 n0) := by
 refine own_entryN (plainFor_of_name pn_5) fun p e s m below meth c s₁ hx hby hml hown hnm hret hlk hZ hh X0 e0 => ?_
 have N0 := Fr.nil n0
 rw [ef_19_46 m ra0 cn3]
 refine og s₁ (mkF m 1 #[vR ra0, vI cn3, vU, vU, vU, vU] [.ref ra0]) (fun _ k => qa X0 hx hby d19_0 rfl rfl rfl k) ?_
 obtain ⟨T1, X1, e1, st1⟩ := qf X0 hx hZ hown (ow hw 72) e0 E' (g := (mkF m 1 #[vR ra0, vI cn3, vU, vU, vU, vU] [.ref ra0])) rfl rfl hby d19_1
 refine og T1 (mkF m 4 #[vR ra0, vI cn3, vU, vU, vU, vU] [.ref ra1]) st1 ?_
 obtain ⟨cl2, Ar2, -, Sr2, Nr2, -, -⟩ := id H'
 refine og T1 (mkF m 5 #[vR ra0, vI cn3, vU, vU, vU, vU] [.int cn2]) (fun t k => X1.arraylength hx (by rw [e1]; exact Ar2.1) (State.isArrayOf_alike hZ.alike Ar2.2.1) (g := (mkF m 4 #[vR ra0, vI cn3, vU, vU, vU, vU] [.ref ra1])) rfl rfl (hb hby d19_4) t (by rw [len_of Sr2 Nr2]; exact k)) ?_
 refine og T1 (mkF m 8 #[vR ra0, vI cn3, vI cn2, vU, vU, vU] [.ref ra0, .int cn3]) (fun _ k => XS.istoreN X1.here hx rfl (hb hby d19_5) rfl (l' := #[vR ra0, vI cn3, vI cn2, vU, vU, vU]) rfl (qi X1 hx hby d19_6 rfl rfl (qa X1 hx hby d19_7 rfl rfl rfl k))) ?_
 obtain ⟨T3, X3, e3, st3⟩ := qf X1 hx hZ hown (ow hw 74) e1 B' (g := (mkF m 8 #[vR ra0, vI cn3, vI cn2, vU, vU, vU] [.ref ra0, .int cn3])) rfl rfl hby d19_8
 refine og T3 (mkF m 23 #[vR ra0, vI cn3, vI cn2, vI (cn3 <<< ((1 : Int32) &&& 31)), vI ((cn3 <<< ((1 : Int32) &&& 31)) - cn2), vU] [.int 2, .int cn2, (.int ((cn3 <<< ((1 : Int32) &&& 31)) - cn2)), .int cn2]) (fun _ k => st3 _ (XS.ishl X3.here hx rfl (hb hby d19_11) rfl (XS.istoreN X3.here hx rfl (hb hby d19_12) rfl (l' := #[vR ra0, vI cn3, vI cn2, vI (cn3 <<< ((1 : Int32) &&& 31)), vU, vU]) rfl (qi X3 hx hby d19_13 rfl rfl (qi X3 hx hby d19_14 rfl rfl (XS.isub X3.here hx rfl (hb hby d19_15) rfl (XS.istore X3.here hx rfl (hb hby d19_16) rfl (l' := #[vR ra0, vI cn3, vI cn2, vI (cn3 <<< ((1 : Int32) &&& 31)), vI ((cn3 <<< ((1 : Int32) &&& 31)) - cn2), vU]) rfl (qi X3 hx hby d19_18 rfl rfl (XS.iload X3.here hx rfl (hb hby d19_19) rfl (qi X3 hx hby d19_21 rfl rfl (qc X3 hx hby d19_22 rfl k))))))))))) ?_
 refine og T3 (mkF m 24 #[vR ra0, vI cn3, vI cn2, vI (cn3 <<< ((1 : Int32) &&& 31)), vI ((cn3 <<< ((1 : Int32) &&& 31)) - cn2), vU] [.ref ra0, .int 2, .int cn2, (.int ((cn3 <<< ((1 : Int32) &&& 31)) - cn2)), .int cn2]) (fun _ k => qa X3 hx hby d19_23 rfl rfl rfl k) ?_
 obtain ⟨T4, X4, e4, st4⟩ := qf X3 hx hZ hown (ow hw 74) e3 B' (g := (mkF m 24 #[vR ra0, vI cn3, vI cn2, vI (cn3 <<< ((1 : Int32) &&& 31)), vI ((cn3 <<< ((1 : Int32) &&& 31)) - cn2), vU] [.ref ra0, .int 2, .int cn2, (.int ((cn3 <<< ((1 : Int32) &&& 31)) - cn2)), .int cn2])) rfl rfl hby d19_24
 refine og T4 (mkF m 28 #[vR ra0, vI cn3, vI cn2, vI (cn3 <<< ((1 : Int32) &&& 31)), vI ((cn3 <<< ((1 : Int32) &&& 31)) - cn2), vU] [.int 4, .int cn2, (.int ((cn3 <<< ((1 : Int32) &&& 31)) - cn2)), .int cn2]) (fun _ k => st4 _ (XS.ishl X4.here hx rfl (hb hby d19_27) rfl (by rw [show ((2 : Int32) <<< ((1 : Int32) &&& 31)) = (4 : Int32) from by decide]; exact k))) ?_
 refine og T4 (mkF m 29 #[vR ra0, vI cn3, vI cn2, vI (cn3 <<< ((1 : Int32) &&& 31)), vI ((cn3 <<< ((1 : Int32) &&& 31)) - cn2), vU] [(.int (cn2 + (4 : Int32))), (.int ((cn3 <<< ((1 : Int32) &&& 31)) - cn2)), .int cn2]) (fun _ k => qp X4 hx hby d19_28 rfl rfl k) ?_
 obtain ⟨_, T5, L5, X5, hQ5, st5⟩ := own_tc X4 hx hZ hown (ow hw 129) (ow hw 130) (rm20_72 l Z a0 hw cn2 (((cn3 <<< ((1 : Int32) &&& 31)) - cn2)) ((cn2 + (4 : Int32))) h0 n0 OLD hn8 hn9 hn10) (ow hw 132) (ow hw 131) e4 (g := (mkF m 29 #[vR ra0, vI cn3, vI cn2, vI (cn3 <<< ((1 : Int32) &&& 31)), vI ((cn3 <<< ((1 : Int32) &&& 31)) - cn2), vU] [(.int (cn2 + (4 : Int32))), (.int ((cn3 <<< ((1 : Int32) &&& 31)) - cn2)), .int cn2])) rfl (zs hml) (argsL := [.int cn2, (.int ((cn3 <<< ((1 : Int32) &&& 31)) - cn2)), (.int (cn2 + (4 : Int32)))]) (rest := []) (lenOf pd_17 rfl) rfl (hb hby d19_29) (W := 0) rfl
 obtain ⟨rfl, Nq5, eq5⟩ := hQ5
 have N5 := Fr.app N0 Nq5
 refine og T5 (mkF m 36 #[vR ra0, vI cn3, vI cn2, vI (cn3 <<< ((1 : Int32) &&& 31)), vI ((cn3 <<< ((1 : Int32) &&& 31)) - cn2), vI (cn2 + ((cn3 <<< ((1 : Int32) &&& 31)) - cn2))] [(.int (cn2 + ((cn3 <<< ((1 : Int32) &&& 31)) - cn2)))]) (fun _ k => st5.trans (XS.istore X5.here hx rfl (hb hby d19_32) rfl (l' := #[vR ra0, vI cn3, vI cn2, vI (cn3 <<< ((1 : Int32) &&& 31)), vI ((cn3 <<< ((1 : Int32) &&& 31)) - cn2), vI (cn2 + ((cn3 <<< ((1 : Int32) &&& 31)) - cn2))]) rfl (XS.iload X5.here hx rfl (hb hby d19_34) rfl k))) ?_
 refine og T5 (mkF m 38 #[vR ra0, vI cn3, vI cn2, vI (cn3 <<< ((1 : Int32) &&& 31)), vI ((cn3 <<< ((1 : Int32) &&& 31)) - cn2), vI (cn2 + ((cn3 <<< ((1 : Int32) &&& 31)) - cn2))] [.int 2147483647, (.int (cn2 + ((cn3 <<< ((1 : Int32) &&& 31)) - cn2)))]) (fun t k => X5.ldcInt hx hown (mvT hZ (ow hw 138)) (g := (mkF m 36 #[vR ra0, vI cn3, vI cn2, vI (cn3 <<< ((1 : Int32) &&& 31)), vI ((cn3 <<< ((1 : Int32) &&& 31)) - cn2), vI (cn2 + ((cn3 <<< ((1 : Int32) &&& 31)) - cn2))] [(.int (cn2 + ((cn3 <<< ((1 : Int32) &&& 31)) - cn2)))])) rfl (hb hby d19_36) t k) ?_
 refine og T5 (mkF m 54 #[vR ra0, vI cn3, vI cn2, vI (cn3 <<< ((1 : Int32) &&& 31)), vI ((cn3 <<< ((1 : Int32) &&& 31)) - cn2), vI (cn2 + ((cn3 <<< ((1 : Int32) &&& 31)) - cn2))] [.ref ra0, (.int (cn2 + ((cn3 <<< ((1 : Int32) &&& 31)) - cn2)))]) (fun _ k => XS.icmpYes X5.here hx rfl (pc0 := 38) (pc' := 51) rfl (hb hby d19_38) rfl (feq hn11).2 (by decide) (by decide) (XS.iload X5.here hx rfl (hb hby d19_51) rfl (qa X5 hx hby d19_53 rfl rfl rfl k))) ?_
 obtain ⟨T6, X6, e6, st6⟩ := qf X5 hx hZ hown (ow hw 74) eq5 B' (g := (mkF m 54 #[vR ra0, vI cn3, vI cn2, vI (cn3 <<< ((1 : Int32) &&& 31)), vI ((cn3 <<< ((1 : Int32) &&& 31)) - cn2), vI (cn2 + ((cn3 <<< ((1 : Int32) &&& 31)) - cn2))] [.ref ra0, (.int (cn2 + ((cn3 <<< ((1 : Int32) &&& 31)) - cn2)))])) rfl rfl hby d19_54
 refine og T6 (mkF m 58 #[vR ra0, vI cn3, vI cn2, vI (cn3 <<< ((1 : Int32) &&& 31)), vI ((cn3 <<< ((1 : Int32) &&& 31)) - cn2), vI (cn2 + ((cn3 <<< ((1 : Int32) &&& 31)) - cn2))] [(.int ((cn2 + ((cn3 <<< ((1 : Int32) &&& 31)) - cn2)) >>> ((1 : Int32) &&& 31)))]) (fun _ k => st6 _ (XS.ishr X6.here hx rfl (hb hby d19_57) rfl k)) ?_
 exact own_leaveN X6 hlk (v := some (.int ((cn2 + ((cn3 <<< ((1 : Int32) &&& 31)) - cn2)) >>> ((1 : Int32) &&& 31)))) (own_nr hret) (lb rfl) (lb rfl) (by rw [e6]; exact ⟨rfl, N5, rfl⟩) (fun fs hr => retI X6 hx hret (hb hby d19_58) hr)
abbrev R15_70 : Room := { frames := 3, cells := 1, slots := 400, locals := 48 }
def Q15_70 (Z : State) (sb ta : Addr) (cs : List Int32) (cn K : Int32) (mn K2 : Int32) (h0 : Heap) (n0 : Nat) (v : Option Value) (h : Heap) (L : List Loc) : Prop := (∃ (eq0 : Addr) (eq1 : ClassId), v = none ∧ Fr n0 L ∧ Keep h0 h [sb] ∧ h0.size ≤ eq0 ∧ own_sb Z h sb eq0 cs cn K2 ∧ Fld Z h sb cN0 "count" "I" (.int cn))
abbrev C15_70 (cn : Int32) (K : Int32) (mn : Int32) (K2 : Int32) : Prop := ((0 : Int32) < (mn - (K >>> ((0 : Int32) &&& 31)))) ∧ (¬ (((mn <<< ((0 : Int32) &&& 31)) - K) < (K + (2 : Int32)))) ∧ ((0 : Int32) < (K + ((mn <<< ((0 : Int32) &&& 31)) - K))) ∧ (¬ ((2147483639 : Int32) < (K + ((mn <<< ((0 : Int32) &&& 31)) - K)))) ∧ (¬ ((K + ((mn <<< ((0 : Int32) &&& 31)) - K)) = (2147483647 : Int32))) ∧ (¬ ((((K + ((mn <<< ((0 : Int32) &&& 31)) - K)) >>> ((0 : Int32) &&& 31)) <<< ((0 : Int32) &&& 31)) = K)) ∧ (¬ ((((K + ((mn <<< ((0 : Int32) &&& 31)) - K)) >>> ((0 : Int32) &&& 31)) <<< ((0 : Int32) &&& 31)) < (0 : Int32))) ∧ ((((K + ((mn <<< ((0 : Int32) &&& 31)) - K)) >>> ((0 : Int32) &&& 31)) <<< ((0 : Int32) &&& 31)).toNatClampNeg ≤ 400) ∧ (¬ ((((K + ((mn <<< ((0 : Int32) &&& 31)) - K)) >>> ((0 : Int32) &&& 31)) <<< ((0 : Int32) &&& 31)) < K)) ∧ (¬ (K < (0 : Int32))) ∧ (K.toNatClampNeg ≤ K.toNatClampNeg) ∧ ((0 : Int32).toNatClampNeg + K.toNatClampNeg ≤ (((K + ((mn <<< ((0 : Int32) &&& 31)) - K)) >>> ((0 : Int32) &&& 31)) <<< ((0 : Int32) &&& 31)).toNatClampNeg) ∧ (cn.toNatClampNeg ≤ K.toNatClampNeg) ∧ ((((K + ((mn <<< ((0 : Int32) &&& 31)) - K)) >>> ((0 : Int32) &&& 31)) <<< ((0 : Int32) &&& 31)) = K2) ∧ ((0 : Int32) < (mn - ((K <<< ((1 : Int32) &&& 31)) >>> ((1 : Int32) &&& 31)))) ∧ (¬ (((mn <<< ((1 : Int32) &&& 31)) - (K <<< ((1 : Int32) &&& 31))) < ((K <<< ((1 : Int32) &&& 31)) + (4 : Int32)))) ∧ ((0 : Int32) < ((K <<< ((1 : Int32) &&& 31)) + ((mn <<< ((1 : Int32) &&& 31)) - (K <<< ((1 : Int32) &&& 31))))) ∧ (¬ ((2147483639 : Int32) < ((K <<< ((1 : Int32) &&& 31)) + ((mn <<< ((1 : Int32) &&& 31)) - (K <<< ((1 : Int32) &&& 31)))))) ∧ (¬ (((K <<< ((1 : Int32) &&& 31)) + ((mn <<< ((1 : Int32) &&& 31)) - (K <<< ((1 : Int32) &&& 31)))) = (2147483647 : Int32))) ∧ (¬ (((((K <<< ((1 : Int32) &&& 31)) + ((mn <<< ((1 : Int32) &&& 31)) - (K <<< ((1 : Int32) &&& 31)))) >>> ((1 : Int32) &&& 31)) <<< ((1 : Int32) &&& 31)) = (K <<< ((1 : Int32) &&& 31)))) ∧ (¬ (((((K <<< ((1 : Int32) &&& 31)) + ((mn <<< ((1 : Int32) &&& 31)) - (K <<< ((1 : Int32) &&& 31)))) >>> ((1 : Int32) &&& 31)) <<< ((1 : Int32) &&& 31)) < (0 : Int32))) ∧ (((((K <<< ((1 : Int32) &&& 31)) + ((mn <<< ((1 : Int32) &&& 31)) - (K <<< ((1 : Int32) &&& 31)))) >>> ((1 : Int32) &&& 31)) <<< ((1 : Int32) &&& 31)).toNatClampNeg ≤ 400) ∧ (¬ (((((K <<< ((1 : Int32) &&& 31)) + ((mn <<< ((1 : Int32) &&& 31)) - (K <<< ((1 : Int32) &&& 31)))) >>> ((1 : Int32) &&& 31)) <<< ((1 : Int32) &&& 31)) < (K <<< ((1 : Int32) &&& 31)))) ∧ (¬ ((K <<< ((1 : Int32) &&& 31)) < (0 : Int32))) ∧ ((K <<< ((1 : Int32) &&& 31)).toNatClampNeg ≤ (K <<< ((1 : Int32) &&& 31)).toNatClampNeg) ∧ ((0 : Int32).toNatClampNeg + (K <<< ((1 : Int32) &&& 31)).toNatClampNeg ≤ ((((K <<< ((1 : Int32) &&& 31)) + ((mn <<< ((1 : Int32) &&& 31)) - (K <<< ((1 : Int32) &&& 31)))) >>> ((1 : Int32) &&& 31)) <<< ((1 : Int32) &&& 31)).toNatClampNeg) ∧ ((2 * cn.toNatClampNeg) ≤ (K <<< ((1 : Int32) &&& 31)).toNatClampNeg) ∧ (((((K <<< ((1 : Int32) &&& 31)) + ((mn <<< ((1 : Int32) &&& 31)) - (K <<< ((1 : Int32) &&& 31)))) >>> ((1 : Int32) &&& 31)) <<< ((1 : Int32) &&& 31)) = (K2 <<< ((1 : Int32) &&& 31)))
theorem rm15_70 l Z a0 (hw : HW Z a0) sb ta (cs : List Int32) (cn : Int32) (K : Int32) (mn : Int32) (K2 : Int32) h0 n0 (OLD : Old Z n0 h0) (S_sb : own_sb Z h0 sb ta cs cn K) (A' : Fld Z h0 sb cN0 "count" "I" (.int cn)) (ge_sb : n0 ≤ sb) (hC : C15_70 cn K mn K2) :
  own_CN l Z y12 jdk_68_method_9_code 3 none [] R15_70 #[.ref sb, .int mn] h0 (Q15_70 Z sb ta cs cn K mn K2 h0 n0) := by
 refine own_entryN (plainFor_of_name pn_5) fun p e s m below meth c s₁ hx hby hml hown hnm hret hlk hZ hh X0 e0 => ?_
 obtain ⟨hn2, hn3, hn4, hn5, hn6, hn7, hn8, hn9, hn10, hn11, hn12, hn13, hn14, hn16, hn17, hn18, hn19, hn20, hn21, hn22, hn23, hn24, hn25, hn26, hn27, hn28, hn29, hn30⟩ := hC
 have N0 := Fr.nil n0
 rw [ef_15_19 m sb mn]
 obtain ⟨kc1, ⟨Fc1, Vc1, lc1⟩ | ⟨Fc1, Vc1, lc1⟩⟩ := S_sb.2.2.2.2.2
 ·
  refine og s₁ (mkF m 1 #[vR sb, vI mn, vU] [.ref sb]) (fun _ k => qa X0 hx hby d15_0 rfl rfl rfl k) ?_
  obtain ⟨T2, X2, e2, st2⟩ := getF X0 hx hZ hown (host := "") (Or.inl (ow hw 72)) Via.refl e0 S_sb.2.1 (g := (mkF m 1 #[vR sb, vI mn, vU] [.ref sb])) rfl rfl (hb hby d15_1)
  refine og T2 (mkF m 4 #[vR sb, vI mn, vU] [.ref ta]) st2 ?_
  obtain ⟨cl3, Ar3, -, Sr3, Nr3, -, -⟩ := id Vc1
  refine og T2 (mkF m 5 #[vR sb, vI mn, vU] [.int K]) (fun t k => X2.arraylength hx (by rw [e2]; exact Ar3.1) (State.isArrayOf_alike hZ.alike Ar3.2.1) (g := (mkF m 4 #[vR sb, vI mn, vU] [.ref ta])) rfl rfl (hb hby d15_4) t (by rw [len_of Sr3 Nr3]; exact k)) ?_
  refine og T2 (mkF m 6 #[vR sb, vI mn, vU] [.ref sb, .int K]) (fun _ k => qa X2 hx hby d15_5 rfl rfl rfl k) ?_
  obtain ⟨T4, X4, e4, st4⟩ := qf X2 hx hZ hown (ow hw 74) e2 Fc1 (g := (mkF m 6 #[vR sb, vI mn, vU] [.ref sb, .int K])) rfl rfl hby d15_6
  refine og T4 (mkF m 19 #[vR sb, vI mn, vI (K >>> ((0 : Int32) &&& 31))] [.ref sb, .ref sb]) (fun _ k => st4 _ (XS.ishr X4.here hx rfl (hb hby d15_9) rfl (XS.istoreN X4.here hx rfl (hb hby d15_10) rfl (l' := #[vR sb, vI mn, vI (K >>> ((0 : Int32) &&& 31))]) rfl (qi X4 hx hby d15_11 rfl rfl (qi X4 hx hby d15_12 rfl rfl (XS.isub X4.here hx rfl (hb hby d15_13) rfl (XS.ifNo X4.here hx rfl (hb hby d15_14) rfl ((if0 _ _).trans (tlt hn2).2.2.2) (qa X4 hx hby d15_17 rfl rfl rfl (qa X4 hx hby d15_18 rfl rfl rfl k))))))))) ?_
  obtain ⟨T5, X5, e5, st5⟩ := getF X4 hx hZ hown (host := "") (Or.inl (ow hw 72)) Via.refl e4 S_sb.2.1 (g := (mkF m 19 #[vR sb, vI mn, vI (K >>> ((0 : Int32) &&& 31))] [.ref sb, .ref sb])) rfl rfl (hb hby d15_19)
  refine og T5 (mkF m 24 #[vR sb, vI mn, vI (K >>> ((0 : Int32) &&& 31))] [.int mn, .ref sb, .ref ta, .ref sb]) (fun _ k => st5 _ (qa X5 hx hby d15_22 rfl rfl rfl (qi X5 hx hby d15_23 rfl rfl k))) ?_
  obtain ⟨_, T6, L6, X6, hQ6, st6⟩ := own_pc X5 hx hZ hown (ow hw 124) (ow hw 127) (ow hw 125) (ow hw 126) S_sb.1 (rm19_71 l Z a0 hw sb cn ta kc1 cs (cn.toNatClampNeg) K mn h0 n0 OLD S_sb.1 Fc1 A' S_sb.2.2.1 S_sb.2.1 S_sb.2.2.2.1 (S_sb.2.2.2.2.1) lc1 Vc1 hn3 hn4 hn5 hn6) (ow hw 128) (ow hw 68) e5 (g := (mkF m 24 #[vR sb, vI mn, vI (K >>> ((0 : Int32) &&& 31))] [.int mn, .ref sb, .ref ta, .ref sb])) rfl (zs hml) (argsL := [.int mn]) (rest := [.ref ta, .ref sb]) (lenOf pd_13 rfl) rfl (hb hby d15_24) (W := 2) rfl
  obtain ⟨rfl, Nq6, eq6⟩ := hQ6
  have N6 := Fr.app N0 Nq6
  refine og T6 (mkF m 28 #[vR sb, vI mn, vI (K >>> ((0 : Int32) &&& 31))] [.ref sb, (.int ((K + ((mn <<< ((0 : Int32) &&& 31)) - K)) >>> ((0 : Int32) &&& 31))), .ref ta, .ref sb]) (fun _ k => st6.trans (qa X6 hx hby d15_27 rfl rfl rfl k)) ?_
  obtain ⟨T7, X7, e7, st7⟩ := qf X6 hx hZ hown (ow hw 74) eq6 Fc1 (g := (mkF m 28 #[vR sb, vI mn, vI (K >>> ((0 : Int32) &&& 31))] [.ref sb, (.int ((K + ((mn <<< ((0 : Int32) &&& 31)) - K)) >>> ((0 : Int32) &&& 31))), .ref ta, .ref sb])) rfl rfl hby d15_28
  refine og T7 (mkF m 32 #[vR sb, vI mn, vI (K >>> ((0 : Int32) &&& 31))] [(.int (((K + ((mn <<< ((0 : Int32) &&& 31)) - K)) >>> ((0 : Int32) &&& 31)) <<< ((0 : Int32) &&& 31))), .ref ta, .ref sb]) (fun _ k => st7 _ (XS.ishl X7.here hx rfl (hb hby d15_31) rfl k)) ?_
  obtain ⟨_, T8, L8, X8, hQ8, st8⟩ := own_tc X7 hx hZ hown (ow hw 139) (ow hw 140) (rm22_49 l Z a0 hw ta kc1 cs (cn.toNatClampNeg) K ((((K + ((mn <<< ((0 : Int32) &&& 31)) - K)) >>> ((0 : Int32) &&& 31)) <<< ((0 : Int32) &&& 31))) h0 n0 OLD S_sb.2.2.2.1 (S_sb.2.2.2.2.1) lc1 Vc1 hn7 hn8 hn9 hn10 hn11 hn12 hn13 hn14) (ow hw 142) (ow hw 141) e7 (g := (mkF m 32 #[vR sb, vI mn, vI (K >>> ((0 : Int32) &&& 31))] [(.int (((K + ((mn <<< ((0 : Int32) &&& 31)) - K)) >>> ((0 : Int32) &&& 31)) <<< ((0 : Int32) &&& 31))), .ref ta, .ref sb])) rfl (zs hml) (argsL := [.ref ta, (.int (((K + ((mn <<< ((0 : Int32) &&& 31)) - K)) >>> ((0 : Int32) &&& 31)) <<< ((0 : Int32) &&& 31)))]) (rest := [.ref sb]) (lenOf pd_24 rfl) rfl (hb hby d15_32) (W := 1) rfl
  obtain ⟨o9, kc10, rfl, Nq8, K8, f11, f12, f13⟩ := hQ8
  have N8 := Fr.app N6 Nq8
  have g14 : n0 ≤ o9 := Nat.le_trans (own_osz OLD) f11
  have z15 : h0.size ≤ o9 := Nat.le_trans (Nat.le_refl _) f11
  refine ot T8 (mkF m 35 #[vR sb, vI mn, vI (K >>> ((0 : Int32) &&& 31))] [.ref o9, .ref sb]) st8 ?_
  have F16 := (S_sb.1.keep K8)
  have F17 := (S_sb.2.1.keep K8 nin0)
  obtain ⟨T18, h18, X18, e18, W18, st18⟩ := putF X8 hx hZ hown (host := "") (Or.inl (ow hw 72)) Via.refl rfl F17 F16 (Or.inl (ow hw 73)) (ow hw 59) (ty := (.array .byte)) (by decide) rfl rfl (g := (mkF m 35 #[vR sb, vI mn, vI (K >>> ((0 : Int32) &&& 31))] [.ref o9, .ref sb])) rfl rfl (hb hby d15_35)
  have Fw18 := F17.same W18
  have N18 := Fr.snoc X18 N8 ge_sb
  refine og T18 (mkF m 38 #[vR sb, vI mn, vI (K >>> ((0 : Int32) &&& 31))] []) st18 ?_
  have F19 := (f13.other W18 (Ne.symm (own_ne_lo S_sb.lt f11)))
  have F21 := (F16.wr W18)
  have F22 := ((S_sb.2.2.1.keep K8 nin0).other W18 (Or.inr (slot_ne (Or.inl (ow hw 368)) (Or.inl (ow hw 73)) (by decide) (t := .boolean) (t' := (.array .byte)) (by decide) (by decide))))
  have F23 := (f12.wr W18)
  have F24 := ((Fc1.keep K8 nin0).other W18 (Or.inr (slot_ne (Or.inl (ow hw 75)) (Or.inl (ow hw 73)) (by decide) (t := .byte) (t' := (.array .byte)) (by decide) (by decide))))
  have S20 : own_sb Z h18 sb o9 cs cn K2 := own_sbL F21 Fw18 F22 F23 (S_sb.2.2.2.2.1) F24 (own_castz hn16 F19) lc1
  have F25 := ((A'.keep K8 nin0).other W18 (Or.inr (slot_ne (Or.inl (ow hw 97)) (Or.inl (ow hw 73)) (by decide) (t := .int) (t' := (.array .byte)) (by decide) (by decide))))
  have KEEP := (((Keep.refl h0 [sb]).trans K8 all0).wr W18 (Or.inl (List.mem_of_getElem? (i := 0) rfl)))
  exact own_leaveN X18 hlk (v := none) (fun _ => rfl) (lb rfl) (lb rfl) (by rw [e18]; exact ⟨o9, kc10, rfl, N18, KEEP, z15, S20, F25⟩) (fun fs hr => X18.returnOut hx hret (hb hby d15_38) hr)
 ·
  refine og s₁ (mkF m 1 #[vR sb, vI mn, vU] [.ref sb]) (fun _ k => qa X0 hx hby d15_0 rfl rfl rfl k) ?_
  obtain ⟨T26, X26, e26, st26⟩ := getF X0 hx hZ hown (host := "") (Or.inl (ow hw 72)) Via.refl e0 S_sb.2.1 (g := (mkF m 1 #[vR sb, vI mn, vU] [.ref sb])) rfl rfl (hb hby d15_1)
  refine og T26 (mkF m 4 #[vR sb, vI mn, vU] [.ref ta]) st26 ?_
  obtain ⟨cl27, Ar27, -, Sr27, Nr27, -, -⟩ := id Vc1
  refine og T26 (mkF m 5 #[vR sb, vI mn, vU] [(.int (K <<< ((1 : Int32) &&& 31)))]) (fun t k => X26.arraylength hx (by rw [e26]; exact Ar27.1) (State.isArrayOf_alike hZ.alike Ar27.2.1) (g := (mkF m 4 #[vR sb, vI mn, vU] [.ref ta])) rfl rfl (hb hby d15_4) t (by rw [len_of Sr27 Nr27]; exact k)) ?_
  refine og T26 (mkF m 6 #[vR sb, vI mn, vU] [.ref sb, (.int (K <<< ((1 : Int32) &&& 31)))]) (fun _ k => qa X26 hx hby d15_5 rfl rfl rfl k) ?_
  obtain ⟨T28, X28, e28, st28⟩ := qf X26 hx hZ hown (ow hw 74) e26 Fc1 (g := (mkF m 6 #[vR sb, vI mn, vU] [.ref sb, (.int (K <<< ((1 : Int32) &&& 31)))])) rfl rfl hby d15_6
  refine og T28 (mkF m 19 #[vR sb, vI mn, vI ((K <<< ((1 : Int32) &&& 31)) >>> ((1 : Int32) &&& 31))] [.ref sb, .ref sb]) (fun _ k => st28 _ (XS.ishr X28.here hx rfl (hb hby d15_9) rfl (XS.istoreN X28.here hx rfl (hb hby d15_10) rfl (l' := #[vR sb, vI mn, vI ((K <<< ((1 : Int32) &&& 31)) >>> ((1 : Int32) &&& 31))]) rfl (qi X28 hx hby d15_11 rfl rfl (qi X28 hx hby d15_12 rfl rfl (XS.isub X28.here hx rfl (hb hby d15_13) rfl (XS.ifNo X28.here hx rfl (hb hby d15_14) rfl ((if0 _ _).trans (tlt hn17).2.2.2) (qa X28 hx hby d15_17 rfl rfl rfl (qa X28 hx hby d15_18 rfl rfl rfl k))))))))) ?_
  obtain ⟨T29, X29, e29, st29⟩ := getF X28 hx hZ hown (host := "") (Or.inl (ow hw 72)) Via.refl e28 S_sb.2.1 (g := (mkF m 19 #[vR sb, vI mn, vI ((K <<< ((1 : Int32) &&& 31)) >>> ((1 : Int32) &&& 31))] [.ref sb, .ref sb])) rfl rfl (hb hby d15_19)
  refine og T29 (mkF m 24 #[vR sb, vI mn, vI ((K <<< ((1 : Int32) &&& 31)) >>> ((1 : Int32) &&& 31))] [.int mn, .ref sb, .ref ta, .ref sb]) (fun _ k => st29 _ (qa X29 hx hby d15_22 rfl rfl rfl (qi X29 hx hby d15_23 rfl rfl k))) ?_
  obtain ⟨_, T30, L30, X30, hQ30, st30⟩ := own_pc X29 hx hZ hown (ow hw 124) (ow hw 127) (ow hw 125) (ow hw 126) S_sb.1 (rm19_74 l Z a0 hw sb cn ta kc1 ((own_u cs)) ((2 * cn.toNatClampNeg)) ((K <<< ((1 : Int32) &&& 31))) mn h0 n0 OLD S_sb.1 Fc1 A' S_sb.2.2.1 S_sb.2.1 S_sb.2.2.2.1 (own_ul (S_sb.2.2.2.2.1)) Vc1 hn18 hn19 hn20 hn21) (ow hw 128) (ow hw 68) e29 (g := (mkF m 24 #[vR sb, vI mn, vI ((K <<< ((1 : Int32) &&& 31)) >>> ((1 : Int32) &&& 31))] [.int mn, .ref sb, .ref ta, .ref sb])) rfl (zs hml) (argsL := [.int mn]) (rest := [.ref ta, .ref sb]) (lenOf pd_13 rfl) rfl (hb hby d15_24) (W := 2) rfl
  obtain ⟨rfl, Nq30, eq30⟩ := hQ30
  have N30 := Fr.app N0 Nq30
  refine og T30 (mkF m 28 #[vR sb, vI mn, vI ((K <<< ((1 : Int32) &&& 31)) >>> ((1 : Int32) &&& 31))] [.ref sb, (.int (((K <<< ((1 : Int32) &&& 31)) + ((mn <<< ((1 : Int32) &&& 31)) - (K <<< ((1 : Int32) &&& 31)))) >>> ((1 : Int32) &&& 31))), .ref ta, .ref sb]) (fun _ k => st30.trans (qa X30 hx hby d15_27 rfl rfl rfl k)) ?_
  obtain ⟨T31, X31, e31, st31⟩ := qf X30 hx hZ hown (ow hw 74) eq30 Fc1 (g := (mkF m 28 #[vR sb, vI mn, vI ((K <<< ((1 : Int32) &&& 31)) >>> ((1 : Int32) &&& 31))] [.ref sb, (.int (((K <<< ((1 : Int32) &&& 31)) + ((mn <<< ((1 : Int32) &&& 31)) - (K <<< ((1 : Int32) &&& 31)))) >>> ((1 : Int32) &&& 31))), .ref ta, .ref sb])) rfl rfl hby d15_28
  refine og T31 (mkF m 32 #[vR sb, vI mn, vI ((K <<< ((1 : Int32) &&& 31)) >>> ((1 : Int32) &&& 31))] [(.int ((((K <<< ((1 : Int32) &&& 31)) + ((mn <<< ((1 : Int32) &&& 31)) - (K <<< ((1 : Int32) &&& 31)))) >>> ((1 : Int32) &&& 31)) <<< ((1 : Int32) &&& 31))), .ref ta, .ref sb]) (fun _ k => st31 _ (XS.ishl X31.here hx rfl (hb hby d15_31) rfl k)) ?_
  obtain ⟨_, T32, L32, X32, hQ32, st32⟩ := own_tc X31 hx hZ hown (ow hw 139) (ow hw 140) (rm22_52 l Z a0 hw ta kc1 ((own_u cs)) ((2 * cn.toNatClampNeg)) ((K <<< ((1 : Int32) &&& 31))) (((((K <<< ((1 : Int32) &&& 31)) + ((mn <<< ((1 : Int32) &&& 31)) - (K <<< ((1 : Int32) &&& 31)))) >>> ((1 : Int32) &&& 31)) <<< ((1 : Int32) &&& 31))) h0 n0 OLD S_sb.2.2.2.1 (own_ul (S_sb.2.2.2.2.1)) Vc1 hn22 hn23 hn24 hn25 hn26 hn27 hn28 hn29) (ow hw 142) (ow hw 141) e31 (g := (mkF m 32 #[vR sb, vI mn, vI ((K <<< ((1 : Int32) &&& 31)) >>> ((1 : Int32) &&& 31))] [(.int ((((K <<< ((1 : Int32) &&& 31)) + ((mn <<< ((1 : Int32) &&& 31)) - (K <<< ((1 : Int32) &&& 31)))) >>> ((1 : Int32) &&& 31)) <<< ((1 : Int32) &&& 31))), .ref ta, .ref sb])) rfl (zs hml) (argsL := [.ref ta, (.int ((((K <<< ((1 : Int32) &&& 31)) + ((mn <<< ((1 : Int32) &&& 31)) - (K <<< ((1 : Int32) &&& 31)))) >>> ((1 : Int32) &&& 31)) <<< ((1 : Int32) &&& 31)))]) (rest := [.ref sb]) (lenOf pd_24 rfl) rfl (hb hby d15_32) (W := 1) rfl
  obtain ⟨o33, kc34, rfl, Nq32, K32, f35, f36, f37⟩ := hQ32
  have N32 := Fr.app N30 Nq32
  have g38 : n0 ≤ o33 := Nat.le_trans (own_osz OLD) f35
  have z39 : h0.size ≤ o33 := Nat.le_trans (Nat.le_refl _) f35
  refine ot T32 (mkF m 35 #[vR sb, vI mn, vI ((K <<< ((1 : Int32) &&& 31)) >>> ((1 : Int32) &&& 31))] [.ref o33, .ref sb]) st32 ?_
  have F40 := (S_sb.1.keep K32)
  have F41 := (S_sb.2.1.keep K32 nin0)
  obtain ⟨T42, h42, X42, e42, W42, st42⟩ := putF X32 hx hZ hown (host := "") (Or.inl (ow hw 72)) Via.refl rfl F41 F40 (Or.inl (ow hw 73)) (ow hw 59) (ty := (.array .byte)) (by decide) rfl rfl (g := (mkF m 35 #[vR sb, vI mn, vI ((K <<< ((1 : Int32) &&& 31)) >>> ((1 : Int32) &&& 31))] [.ref o33, .ref sb])) rfl rfl (hb hby d15_35)
  have Fw42 := F41.same W42
  have N42 := Fr.snoc X42 N32 ge_sb
  refine og T42 (mkF m 38 #[vR sb, vI mn, vI ((K <<< ((1 : Int32) &&& 31)) >>> ((1 : Int32) &&& 31))] []) st42 ?_
  have F43 := (f37.other W42 (Ne.symm (own_ne_lo S_sb.lt f35)))
  have F45 := (F40.wr W42)
  have F46 := ((S_sb.2.2.1.keep K32 nin0).other W42 (Or.inr (slot_ne (Or.inl (ow hw 368)) (Or.inl (ow hw 73)) (by decide) (t := .boolean) (t' := (.array .byte)) (by decide) (by decide))))
  have F47 := (f36.wr W42)
  have F48 := ((Fc1.keep K32 nin0).other W42 (Or.inr (slot_ne (Or.inl (ow hw 75)) (Or.inl (ow hw 73)) (by decide) (t := .byte) (t' := (.array .byte)) (by decide) (by decide))))
  have S44 : own_sb Z h42 sb o33 cs cn K2 := own_sbU F45 Fw42 F46 F47 (S_sb.2.2.2.2.1) F48 (own_castz hn30 F43) lc1
  have F49 := ((A'.keep K32 nin0).other W42 (Or.inr (slot_ne (Or.inl (ow hw 97)) (Or.inl (ow hw 73)) (by decide) (t := .int) (t' := (.array .byte)) (by decide) (by decide))))
  have KEEP := (((Keep.refl h0 [sb]).trans K32 all0).wr W42 (Or.inl (List.mem_of_getElem? (i := 0) rfl)))
  exact own_leaveN X42 hlk (v := none) (fun _ => rfl) (lb rfl) (lb rfl) (by rw [e42]; exact ⟨o33, kc34, rfl, N42, KEEP, z39, S44, F49⟩) (fun fs hr => X42.returnOut hx hret (hb hby d15_38) hr)
abbrev R12_69 : Room := { frames := 8, cells := 2, slots := 800, locals := 116 }
def Q12_69 (Z : State) (sb ta : Addr) (cs : List Int32) (cn K : Int32) (sx bx : Addr) (ds : List Int32) (cm n2 : Int32) (K2 G1 : Int32) (G3 : Value) (h0 : Heap) (n0 : Nat) (v : Option Value) (h : Heap) (L : List Loc) : Prop := (∃ (eq0 : Addr), v = some (.ref sb) ∧ Fr n0 L ∧ Keep h0 h [sb] ∧ h0.size ≤ eq0 ∧ own_sb Z h sb eq0 (cs ++ ds) n2 K2 ∧ Fld Z h sb cN0 "count" "I" (.int (cn + cm)))
abbrev C12_69 (cn : Int32) (K : Int32) (cm : Int32) (n2 : Int32) (K2 : Int32) : Prop := ((cm >>> ((0 : Int32) &&& 31)) = cm) ∧ (((cm <<< ((1 : Int32) &&& 31)) >>> ((1 : Int32) &&& 31)) = cm) ∧ ((0 : Int32) < ((cn + cm) - (K >>> ((0 : Int32) &&& 31)))) ∧ (¬ ((((cn + cm) <<< ((0 : Int32) &&& 31)) - K) < (K + (2 : Int32)))) ∧ ((0 : Int32) < (K + (((cn + cm) <<< ((0 : Int32) &&& 31)) - K))) ∧ (¬ ((2147483639 : Int32) < (K + (((cn + cm) <<< ((0 : Int32) &&& 31)) - K)))) ∧ (¬ ((K + (((cn + cm) <<< ((0 : Int32) &&& 31)) - K)) = (2147483647 : Int32))) ∧ (¬ ((((K + (((cn + cm) <<< ((0 : Int32) &&& 31)) - K)) >>> ((0 : Int32) &&& 31)) <<< ((0 : Int32) &&& 31)) = K)) ∧ (¬ ((((K + (((cn + cm) <<< ((0 : Int32) &&& 31)) - K)) >>> ((0 : Int32) &&& 31)) <<< ((0 : Int32) &&& 31)) < (0 : Int32))) ∧ ((((K + (((cn + cm) <<< ((0 : Int32) &&& 31)) - K)) >>> ((0 : Int32) &&& 31)) <<< ((0 : Int32) &&& 31)).toNatClampNeg ≤ 400) ∧ (¬ ((((K + (((cn + cm) <<< ((0 : Int32) &&& 31)) - K)) >>> ((0 : Int32) &&& 31)) <<< ((0 : Int32) &&& 31)) < K)) ∧ (¬ (K < (0 : Int32))) ∧ (K.toNatClampNeg ≤ K.toNatClampNeg) ∧ ((0 : Int32).toNatClampNeg + K.toNatClampNeg ≤ (((K + (((cn + cm) <<< ((0 : Int32) &&& 31)) - K)) >>> ((0 : Int32) &&& 31)) <<< ((0 : Int32) &&& 31)).toNatClampNeg) ∧ (cn.toNatClampNeg ≤ K.toNatClampNeg) ∧ ((((K + (((cn + cm) <<< ((0 : Int32) &&& 31)) - K)) >>> ((0 : Int32) &&& 31)) <<< ((0 : Int32) &&& 31)) = K2) ∧ ((0 : Int32) < ((cn + cm) - ((K <<< ((1 : Int32) &&& 31)) >>> ((1 : Int32) &&& 31)))) ∧ (¬ ((((cn + cm) <<< ((1 : Int32) &&& 31)) - (K <<< ((1 : Int32) &&& 31))) < ((K <<< ((1 : Int32) &&& 31)) + (4 : Int32)))) ∧ ((0 : Int32) < ((K <<< ((1 : Int32) &&& 31)) + (((cn + cm) <<< ((1 : Int32) &&& 31)) - (K <<< ((1 : Int32) &&& 31))))) ∧ (¬ ((2147483639 : Int32) < ((K <<< ((1 : Int32) &&& 31)) + (((cn + cm) <<< ((1 : Int32) &&& 31)) - (K <<< ((1 : Int32) &&& 31)))))) ∧ (¬ (((K <<< ((1 : Int32) &&& 31)) + (((cn + cm) <<< ((1 : Int32) &&& 31)) - (K <<< ((1 : Int32) &&& 31)))) = (2147483647 : Int32))) ∧ (¬ (((((K <<< ((1 : Int32) &&& 31)) + (((cn + cm) <<< ((1 : Int32) &&& 31)) - (K <<< ((1 : Int32) &&& 31)))) >>> ((1 : Int32) &&& 31)) <<< ((1 : Int32) &&& 31)) = (K <<< ((1 : Int32) &&& 31)))) ∧ (¬ (((((K <<< ((1 : Int32) &&& 31)) + (((cn + cm) <<< ((1 : Int32) &&& 31)) - (K <<< ((1 : Int32) &&& 31)))) >>> ((1 : Int32) &&& 31)) <<< ((1 : Int32) &&& 31)) < (0 : Int32))) ∧ (((((K <<< ((1 : Int32) &&& 31)) + (((cn + cm) <<< ((1 : Int32) &&& 31)) - (K <<< ((1 : Int32) &&& 31)))) >>> ((1 : Int32) &&& 31)) <<< ((1 : Int32) &&& 31)).toNatClampNeg ≤ 400) ∧ (¬ (((((K <<< ((1 : Int32) &&& 31)) + (((cn + cm) <<< ((1 : Int32) &&& 31)) - (K <<< ((1 : Int32) &&& 31)))) >>> ((1 : Int32) &&& 31)) <<< ((1 : Int32) &&& 31)) < (K <<< ((1 : Int32) &&& 31)))) ∧ (¬ ((K <<< ((1 : Int32) &&& 31)) < (0 : Int32))) ∧ ((K <<< ((1 : Int32) &&& 31)).toNatClampNeg ≤ (K <<< ((1 : Int32) &&& 31)).toNatClampNeg) ∧ ((0 : Int32).toNatClampNeg + (K <<< ((1 : Int32) &&& 31)).toNatClampNeg ≤ ((((K <<< ((1 : Int32) &&& 31)) + (((cn + cm) <<< ((1 : Int32) &&& 31)) - (K <<< ((1 : Int32) &&& 31)))) >>> ((1 : Int32) &&& 31)) <<< ((1 : Int32) &&& 31)).toNatClampNeg) ∧ ((2 * cn.toNatClampNeg) ≤ (K <<< ((1 : Int32) &&& 31)).toNatClampNeg) ∧ (((((K <<< ((1 : Int32) &&& 31)) + (((cn + cm) <<< ((1 : Int32) &&& 31)) - (K <<< ((1 : Int32) &&& 31)))) >>> ((1 : Int32) &&& 31)) <<< ((1 : Int32) &&& 31)) = (K2 <<< ((1 : Int32) &&& 31))) ∧ (¬ ((cn <<< ((0 : Int32) &&& 31)) < (0 : Int32))) ∧ (¬ (cm < (0 : Int32))) ∧ (cm.toNatClampNeg ≤ cm.toNatClampNeg) ∧ ((cn <<< ((0 : Int32) &&& 31)).toNatClampNeg + cm.toNatClampNeg ≤ K2.toNatClampNeg) ∧ ((cn <<< ((0 : Int32) &&& 31)).toNatClampNeg = cn.toNatClampNeg) ∧ ((cn.toNatClampNeg + cm.toNatClampNeg) = n2.toNatClampNeg) ∧ (¬ (K2 < (0 : Int32))) ∧ (K2 < (1073741823 : Int32)) ∧ (¬ ((K2 <<< ((1 : Int32) &&& 31)) < (0 : Int32))) ∧ ((K2 <<< ((1 : Int32) &&& 31)).toNatClampNeg ≤ 400) ∧ (¬ (((((K2 <<< ((1 : Int32) &&& 31)) >>> ((1 : Int32) &&& 31)) ||| (0 : Int32)) ||| cn) < (0 : Int32))) ∧ (¬ ((((K2 <<< ((1 : Int32) &&& 31)) >>> ((1 : Int32) &&& 31)) - (0 : Int32)) < cn)) ∧ (2 * ((0 : Int32).toNatClampNeg + cn.toNatClampNeg) ≤ (K2 <<< ((1 : Int32) &&& 31)).toNatClampNeg) ∧ (cn.toNatClampNeg ≤ K2.toNatClampNeg) ∧ (¬ (cn < (0 : Int32))) ∧ (¬ ((cn <<< ((1 : Int32) &&& 31)) < (0 : Int32))) ∧ (¬ ((cm <<< ((1 : Int32) &&& 31)) < (0 : Int32))) ∧ ((cm <<< ((1 : Int32) &&& 31)).toNatClampNeg ≤ (cm <<< ((1 : Int32) &&& 31)).toNatClampNeg) ∧ ((cn <<< ((1 : Int32) &&& 31)).toNatClampNeg + (cm <<< ((1 : Int32) &&& 31)).toNatClampNeg ≤ (K2 <<< ((1 : Int32) &&& 31)).toNatClampNeg) ∧ ((cn <<< ((1 : Int32) &&& 31)).toNatClampNeg = (2 * cn.toNatClampNeg)) ∧ ((2 * cm.toNatClampNeg) ≤ (cm <<< ((1 : Int32) &&& 31)).toNatClampNeg) ∧ (¬ (((((K2 <<< ((1 : Int32) &&& 31)) >>> ((1 : Int32) &&& 31)) ||| cn) ||| cm) < (0 : Int32))) ∧ (¬ ((((K2 <<< ((1 : Int32) &&& 31)) >>> ((1 : Int32) &&& 31)) - cn) < cm)) ∧ (2 * cn.toNatClampNeg = (2 * cn.toNatClampNeg)) ∧ (2 * (cn.toNatClampNeg + cm.toNatClampNeg) ≤ (K2 <<< ((1 : Int32) &&& 31)).toNatClampNeg)
theorem rm12_69 l Z a0 (hw : HW Z a0) sb ta (cs : List Int32) (cn : Int32) (K : Int32) sx bx (ds : List Int32) (cm : Int32) (n2 : Int32) (K2 : Int32) (G1 : Int32) (G3 : Value) h0 n0 (OLD : Old Z n0 h0) (S_sb : own_sb Z h0 sb ta cs cn K) (A' : Fld Z h0 sb cN0 "count" "I" (.int cn)) (S_sx : own_st Z h0 sx bx ds cm) (O2 : Sta Z Z.heap cN1 "COMPACT_STRINGS" "Z" (.int G1)) (P5 : ¬ (G1 = (0 : Int32))) (ge_sb : n0 ≤ sb) (ne_sx_sb : sx ≠ sb) (ne_bx_sb : bx ≠ sb) (O4 : Sta Z Z.heap cN5 "SIOOBE_FORMATTER" "Ljava/util/function/BiFunction;" G3) (rG3 : G3.isRef = true) (Sas : Sta Z Z.heap cN2 "$assertionsDisabled" "Z" (.int 1)) (SHI : Sta Z Z.heap cN2 "HI_BYTE_SHIFT" "I" (.int 0)) (SLO : Sta Z Z.heap cN2 "LO_BYTE_SHIFT" "I" (.int 8)) (hC : C12_69 cn K cm n2 K2) :
  own_CN l Z y26 jdk_68_method_22_code 3 (some (.object cN0)) [] R12_69 #[.ref sb, .ref sx] h0 (Q12_69 Z sb ta cs cn K sx bx ds cm n2 K2 G1 G3 h0 n0) := by
 refine own_entryN (plainFor_of_name pn_5) fun p e s m below meth c s₁ hx hby hml hown hnm hret hlk hZ hh X0 e0 => ?_
 obtain ⟨hn5, hn6, hn8, hn9, hn10, hn11, hn12, hn13, hn14, hn15, hn16, hn17, hn18, hn19, hn20, hn21, hn22, hn23, hn24, hn25, hn26, hn27, hn28, hn29, hn30, hn31, hn32, hn33, hn34, hn35, hn43, hn44, hn45, hn46, hn47, hn48, hn49, hn50, hn51, hn52, hn53, hn54, hn55, hn56, hn57, hn58, hn59, hn60, hn61, hn62, hn63, hn64, hn65, hn66, hn67⟩ := hC
 have N0 := Fr.nil n0
 rw [ef_12_16 m sb sx]
 refine og s₁ (mkF m 10 #[vR sb, vR sx, vU] [.ref sx]) (fun _ k => qa X0 hx hby d12_0 rfl rfl rfl (XS.ifnonnullYes X0.here hx rfl (pc0 := 1) (pc' := 9) rfl (hb hby d12_1) rfl (by decide) (by decide) (qa X0 hx hby d12_9 rfl rfl rfl k))) ?_
 obtain ⟨_, T1, L1, X1, hQ1, st1⟩ := own_vc X0 hx hZ hown (ow hw 86) (ow hw 87) (ow hw 89) (ow hw 88) S_sx.1 (rm13_17 l Z a0 hw sx bx ds cm G1 h0 n0 OLD S_sx O2 P5 ⟨hn5, hn6⟩) (ow hw 90) (ow hw 5) e0 (g := (mkF m 10 #[vR sb, vR sx, vU] [.ref sx])) rfl (zs hml) (argsL := []) (rest := []) (lenOf pd_9 rfl) rfl (hb hby d12_10) (W := 0) rfl
 obtain ⟨rfl, Nq1, eq1⟩ := hQ1
 have N1 := Fr.app N0 Nq1
 refine og T1 (mkF m 16 #[vR sb, vR sx, vI cm] [.ref sb, .ref sb]) (fun _ k => st1.trans (XS.istoreN X1.here hx rfl (hb hby d12_13) rfl (l' := #[vR sb, vR sx, vI cm]) rfl (qa X1 hx hby d12_14 rfl rfl rfl (qa X1 hx hby d12_15 rfl rfl rfl k)))) ?_
 obtain ⟨T2, X2, e2, st2⟩ := qf X1 hx hZ hown (ow hw 96) eq1 A' (g := (mkF m 16 #[vR sb, vR sx, vI cm] [.ref sb, .ref sb])) rfl rfl hby d12_16
 refine og T2 (mkF m 21 #[vR sb, vR sx, vI cm] [(.int (cn + cm)), .ref sb]) (fun _ k => st2 _ (qi X2 hx hby d12_19 rfl rfl (qp X2 hx hby d12_20 rfl rfl k))) ?_
 obtain ⟨_, T3, L3, X3, hQ3, st3⟩ := own_pc X2 hx hZ hown (ow hw 98) (ow hw 101) (ow hw 99) (ow hw 100) S_sb.1 (rm15_70 l Z a0 hw sb ta cs cn K ((cn + cm)) K2 h0 n0 OLD S_sb A' ge_sb ⟨hn8, hn9, hn10, hn11, hn12, hn13, hn14, hn15, hn16, hn17, hn18, hn19, hn20, hn21, hn22, hn23, hn24, hn25, hn26, hn27, hn28, hn29, hn30, hn31, hn32, hn33, hn34, hn35⟩) (ow hw 102) (ow hw 68) e2 (g := (mkF m 21 #[vR sb, vR sx, vI cm] [(.int (cn + cm)), .ref sb])) rfl (zs hml) (argsL := [(.int (cn + cm))]) (rest := []) (lenOf pd_7 rfl) rfl (hb hby d12_21) (W := 0) rfl
 obtain ⟨o4, kc5, rfl, Nq3, K3, f6, f7, f8⟩ := hQ3
 have N3 := Fr.app N1 Nq3
 have g9 : n0 ≤ o4 := Nat.le_trans (own_osz OLD) f6
 have z10 : h0.size ≤ o4 := Nat.le_trans (Nat.le_refl _) f6
 refine og T3 (mkF m 26 #[vR sb, vR sx, vI cm] [.ref sb, .ref sb]) (fun _ k => st3.trans (qa X3 hx hby d12_24 rfl rfl rfl (qa X3 hx hby d12_25 rfl rfl rfl k))) ?_
 obtain ⟨T11, X11, e11, st11⟩ := qf X3 hx hZ hown (ow hw 96) rfl f8 (g := (mkF m 26 #[vR sb, vR sx, vI cm] [.ref sb, .ref sb])) rfl rfl hby d12_26
 refine og T11 (mkF m 30 #[vR sb, vR sx, vI cm] [.ref sx, .int cn, .ref sb]) (fun _ k => st11 _ (qa X11 hx hby d12_29 rfl rfl rfl k)) ?_
 have F12 := (S_sx.keep K3 (ninS ne_sx_sb nin0) (ninS ne_bx_sb nin0))
 have F13 := (OLD.keep K3 (allS ge_sb all0))
 have F15 := (S_sb.1.keep K3)
 obtain ⟨_, T14, L14, X14, hQ14, st14⟩ := own_pc X11 hx hZ hown (ow hw 103) (ow hw 106) (ow hw 104) (ow hw 105) F15 (rm16_20 l Z a0 hw sb o4 cs cn K2 sx bx ds cm n2 G1 G3 T3.heap n0 F13 f7 f8 F12 O2 P5 g9 (own_ne_lo S_sb.lt f6) O4 rG3 Sas SHI SLO ge_sb ne_sx_sb ne_bx_sb (own_ne_lo S_sx.ltb f6) ⟨hn43, hn44, hn45, hn46, hn47, hn48, hn49, hn50, hn51, hn52, hn53, hn54, hn55, hn56, hn57, hn58, hn59, hn60, hn61, hn62, hn63, hn64, hn65, hn66, hn67⟩) (ow hw 107) (ow hw 68) e11 (g := (mkF m 30 #[vR sb, vR sx, vI cm] [.ref sx, .int cn, .ref sb])) rfl (zs hml) (argsL := [.int cn, .ref sx]) (rest := []) (lenOf pd_20 rfl) rfl (hb hby d12_30) (W := 0) rfl
 obtain ⟨o16, rfl, Nq14, K14, f17, f18, f19⟩ := hQ14
 have N14 := Fr.app N3 Nq14
 have g20 : n0 ≤ o16 := own_altge f17 g9 (own_osz F13)
 have F22 := (Nat.le_trans (Nat.le_refl _) K3.1)
 have z21 : h0.size ≤ o16 := own_altge f17 z10 F22
 refine og T14 (mkF m 35 #[vR sb, vR sx, vI cm] [.ref sb, .ref sb]) (fun _ k => st14.trans (qa X14 hx hby d12_33 rfl rfl rfl (XS.dup X14.here hx rfl (hb hby d12_34) rfl rfl k))) ?_
 obtain ⟨T23, X23, e23, st23⟩ := qf X14 hx hZ hown (ow hw 96) rfl f19 (g := (mkF m 35 #[vR sb, vR sx, vI cm] [.ref sb, .ref sb])) rfl rfl hby d12_35
 refine og T23 (mkF m 40 #[vR sb, vR sx, vI cm] [(.int (cn + cm)), .ref sb]) (fun _ k => st23 _ (qi X23 hx hby d12_38 rfl rfl (qp X23 hx hby d12_39 rfl rfl k))) ?_
 have F24 := (F15.keep K14)
 obtain ⟨T25, h25, X25, e25, W25, st25⟩ := putF X23 hx hZ hown (host := "") (Or.inl (ow hw 96)) Via.refl e23 f19 F24 (Or.inl (ow hw 97)) (ow hw 59) (ty := .int) (by decide) rfl rfl (g := (mkF m 40 #[vR sb, vR sx, vI cm] [(.int (cn + cm)), .ref sb])) rfl rfl (hb hby d12_40)
 have Fw25 := f19.same W25
 have N25 := Fr.snoc X25 N14 ge_sb
 refine og T25 (mkF m 44 #[vR sb, vR sx, vI cm] [.ref sb]) (fun _ k => st25 _ (qa X25 hx hby d12_43 rfl rfl rfl k)) ?_
 have ne26 : sb ≠ o16 := (own_altne f17 (own_ne_lo S_sb.lt f6) (Nat.lt_of_lt_of_le S_sb.lt K3.1))
 have F27 := (f18.wrc W25 (slot_ne (Or.inl (ow hw 73)) (Or.inl (ow hw 97)) (by decide) (t := (.array .byte)) (t' := .int) (by decide) (by decide)) (slot_ne (Or.inl (ow hw 368)) (Or.inl (ow hw 97)) (by decide) (t := .boolean) (t' := .int) (by decide) (by decide)) (slot_ne (Or.inl (ow hw 75)) (Or.inl (ow hw 97)) (by decide) (t := .byte) (t' := .int) (by decide) (by decide)) (Ne.symm ne26))
 have KEEP := ((((Keep.refl h0 [sb]).trans K3 (allS (Or.inl (List.mem_of_getElem? (i := 0) rfl)) all0)).trans K14 (allS (Or.inl (List.mem_of_getElem? (i := 0) rfl)) (allS (Or.inr z10) all0))).wr W25 (Or.inl (List.mem_of_getElem? (i := 0) rfl)))
 exact own_leaveN X25 hlk (v := some (.ref sb)) (own_nr hret) (lb rfl) (lb rfl) (by rw [e25]; exact ⟨o16, rfl, N25, KEEP, z21, F27, Fw25⟩) (own_ra X25 hx hret rfl rfl rfl (hb hby d12_44))
abbrev R11_68 : Room := { frames := 9, cells := 2, slots := 800, locals := 130 }
def Q11_68 (Z : State) (sb ta : Addr) (cs : List Int32) (cn K : Int32) (sx bx : Addr) (ds : List Int32) (cm n2 : Int32) (K2 G1 : Int32) (G3 : Value) (h0 : Heap) (n0 : Nat) (v : Option Value) (h : Heap) (L : List Loc) : Prop := (∃ (eq0 : Addr), v = some (.ref sb) ∧ Fr n0 L ∧ Keep h0 h [sb] ∧ h0.size ≤ eq0 ∧ own_sb Z h sb eq0 (cs ++ ds) n2 K2 ∧ Fld Z h sb cN0 "count" "I" (.int (cn + cm)))
abbrev C11_68 (cn : Int32) (K : Int32) (cm : Int32) (n2 : Int32) (K2 : Int32) : Prop := ((cm >>> ((0 : Int32) &&& 31)) = cm) ∧ (((cm <<< ((1 : Int32) &&& 31)) >>> ((1 : Int32) &&& 31)) = cm) ∧ ((0 : Int32) < ((cn + cm) - (K >>> ((0 : Int32) &&& 31)))) ∧ (¬ ((((cn + cm) <<< ((0 : Int32) &&& 31)) - K) < (K + (2 : Int32)))) ∧ ((0 : Int32) < (K + (((cn + cm) <<< ((0 : Int32) &&& 31)) - K))) ∧ (¬ ((2147483639 : Int32) < (K + (((cn + cm) <<< ((0 : Int32) &&& 31)) - K)))) ∧ (¬ ((K + (((cn + cm) <<< ((0 : Int32) &&& 31)) - K)) = (2147483647 : Int32))) ∧ (¬ ((((K + (((cn + cm) <<< ((0 : Int32) &&& 31)) - K)) >>> ((0 : Int32) &&& 31)) <<< ((0 : Int32) &&& 31)) = K)) ∧ (¬ ((((K + (((cn + cm) <<< ((0 : Int32) &&& 31)) - K)) >>> ((0 : Int32) &&& 31)) <<< ((0 : Int32) &&& 31)) < (0 : Int32))) ∧ ((((K + (((cn + cm) <<< ((0 : Int32) &&& 31)) - K)) >>> ((0 : Int32) &&& 31)) <<< ((0 : Int32) &&& 31)).toNatClampNeg ≤ 400) ∧ (¬ ((((K + (((cn + cm) <<< ((0 : Int32) &&& 31)) - K)) >>> ((0 : Int32) &&& 31)) <<< ((0 : Int32) &&& 31)) < K)) ∧ (¬ (K < (0 : Int32))) ∧ (K.toNatClampNeg ≤ K.toNatClampNeg) ∧ ((0 : Int32).toNatClampNeg + K.toNatClampNeg ≤ (((K + (((cn + cm) <<< ((0 : Int32) &&& 31)) - K)) >>> ((0 : Int32) &&& 31)) <<< ((0 : Int32) &&& 31)).toNatClampNeg) ∧ (cn.toNatClampNeg ≤ K.toNatClampNeg) ∧ ((((K + (((cn + cm) <<< ((0 : Int32) &&& 31)) - K)) >>> ((0 : Int32) &&& 31)) <<< ((0 : Int32) &&& 31)) = K2) ∧ ((0 : Int32) < ((cn + cm) - ((K <<< ((1 : Int32) &&& 31)) >>> ((1 : Int32) &&& 31)))) ∧ (¬ ((((cn + cm) <<< ((1 : Int32) &&& 31)) - (K <<< ((1 : Int32) &&& 31))) < ((K <<< ((1 : Int32) &&& 31)) + (4 : Int32)))) ∧ ((0 : Int32) < ((K <<< ((1 : Int32) &&& 31)) + (((cn + cm) <<< ((1 : Int32) &&& 31)) - (K <<< ((1 : Int32) &&& 31))))) ∧ (¬ ((2147483639 : Int32) < ((K <<< ((1 : Int32) &&& 31)) + (((cn + cm) <<< ((1 : Int32) &&& 31)) - (K <<< ((1 : Int32) &&& 31)))))) ∧ (¬ (((K <<< ((1 : Int32) &&& 31)) + (((cn + cm) <<< ((1 : Int32) &&& 31)) - (K <<< ((1 : Int32) &&& 31)))) = (2147483647 : Int32))) ∧ (¬ (((((K <<< ((1 : Int32) &&& 31)) + (((cn + cm) <<< ((1 : Int32) &&& 31)) - (K <<< ((1 : Int32) &&& 31)))) >>> ((1 : Int32) &&& 31)) <<< ((1 : Int32) &&& 31)) = (K <<< ((1 : Int32) &&& 31)))) ∧ (¬ (((((K <<< ((1 : Int32) &&& 31)) + (((cn + cm) <<< ((1 : Int32) &&& 31)) - (K <<< ((1 : Int32) &&& 31)))) >>> ((1 : Int32) &&& 31)) <<< ((1 : Int32) &&& 31)) < (0 : Int32))) ∧ (((((K <<< ((1 : Int32) &&& 31)) + (((cn + cm) <<< ((1 : Int32) &&& 31)) - (K <<< ((1 : Int32) &&& 31)))) >>> ((1 : Int32) &&& 31)) <<< ((1 : Int32) &&& 31)).toNatClampNeg ≤ 400) ∧ (¬ (((((K <<< ((1 : Int32) &&& 31)) + (((cn + cm) <<< ((1 : Int32) &&& 31)) - (K <<< ((1 : Int32) &&& 31)))) >>> ((1 : Int32) &&& 31)) <<< ((1 : Int32) &&& 31)) < (K <<< ((1 : Int32) &&& 31)))) ∧ (¬ ((K <<< ((1 : Int32) &&& 31)) < (0 : Int32))) ∧ ((K <<< ((1 : Int32) &&& 31)).toNatClampNeg ≤ (K <<< ((1 : Int32) &&& 31)).toNatClampNeg) ∧ ((0 : Int32).toNatClampNeg + (K <<< ((1 : Int32) &&& 31)).toNatClampNeg ≤ ((((K <<< ((1 : Int32) &&& 31)) + (((cn + cm) <<< ((1 : Int32) &&& 31)) - (K <<< ((1 : Int32) &&& 31)))) >>> ((1 : Int32) &&& 31)) <<< ((1 : Int32) &&& 31)).toNatClampNeg) ∧ ((2 * cn.toNatClampNeg) ≤ (K <<< ((1 : Int32) &&& 31)).toNatClampNeg) ∧ (((((K <<< ((1 : Int32) &&& 31)) + (((cn + cm) <<< ((1 : Int32) &&& 31)) - (K <<< ((1 : Int32) &&& 31)))) >>> ((1 : Int32) &&& 31)) <<< ((1 : Int32) &&& 31)) = (K2 <<< ((1 : Int32) &&& 31))) ∧ (¬ ((cn <<< ((0 : Int32) &&& 31)) < (0 : Int32))) ∧ (¬ (cm < (0 : Int32))) ∧ (cm.toNatClampNeg ≤ cm.toNatClampNeg) ∧ ((cn <<< ((0 : Int32) &&& 31)).toNatClampNeg + cm.toNatClampNeg ≤ K2.toNatClampNeg) ∧ ((cn <<< ((0 : Int32) &&& 31)).toNatClampNeg = cn.toNatClampNeg) ∧ ((cn.toNatClampNeg + cm.toNatClampNeg) = n2.toNatClampNeg) ∧ (¬ (K2 < (0 : Int32))) ∧ (K2 < (1073741823 : Int32)) ∧ (¬ ((K2 <<< ((1 : Int32) &&& 31)) < (0 : Int32))) ∧ ((K2 <<< ((1 : Int32) &&& 31)).toNatClampNeg ≤ 400) ∧ (¬ (((((K2 <<< ((1 : Int32) &&& 31)) >>> ((1 : Int32) &&& 31)) ||| (0 : Int32)) ||| cn) < (0 : Int32))) ∧ (¬ ((((K2 <<< ((1 : Int32) &&& 31)) >>> ((1 : Int32) &&& 31)) - (0 : Int32)) < cn)) ∧ (2 * ((0 : Int32).toNatClampNeg + cn.toNatClampNeg) ≤ (K2 <<< ((1 : Int32) &&& 31)).toNatClampNeg) ∧ (cn.toNatClampNeg ≤ K2.toNatClampNeg) ∧ (¬ (cn < (0 : Int32))) ∧ (¬ ((cn <<< ((1 : Int32) &&& 31)) < (0 : Int32))) ∧ (¬ ((cm <<< ((1 : Int32) &&& 31)) < (0 : Int32))) ∧ ((cm <<< ((1 : Int32) &&& 31)).toNatClampNeg ≤ (cm <<< ((1 : Int32) &&& 31)).toNatClampNeg) ∧ ((cn <<< ((1 : Int32) &&& 31)).toNatClampNeg + (cm <<< ((1 : Int32) &&& 31)).toNatClampNeg ≤ (K2 <<< ((1 : Int32) &&& 31)).toNatClampNeg) ∧ ((cn <<< ((1 : Int32) &&& 31)).toNatClampNeg = (2 * cn.toNatClampNeg)) ∧ ((2 * cm.toNatClampNeg) ≤ (cm <<< ((1 : Int32) &&& 31)).toNatClampNeg) ∧ (¬ (((((K2 <<< ((1 : Int32) &&& 31)) >>> ((1 : Int32) &&& 31)) ||| cn) ||| cm) < (0 : Int32))) ∧ (¬ ((((K2 <<< ((1 : Int32) &&& 31)) >>> ((1 : Int32) &&& 31)) - cn) < cm)) ∧ (2 * cn.toNatClampNeg = (2 * cn.toNatClampNeg)) ∧ (2 * (cn.toNatClampNeg + cm.toNatClampNeg) ≤ (K2 <<< ((1 : Int32) &&& 31)).toNatClampNeg)
theorem rm11_68 l Z a0 (hw : HW Z a0) sb ta (cs : List Int32) (cn : Int32) (K : Int32) sx bx (ds : List Int32) (cm : Int32) (n2 : Int32) (K2 : Int32) (G1 : Int32) (G3 : Value) h0 n0 (OLD : Old Z n0 h0) (S_sb : own_sb Z h0 sb ta cs cn K) (A' : Fld Z h0 sb cN0 "count" "I" (.int cn)) (S_sx : own_st Z h0 sx bx ds cm) (O2 : Sta Z Z.heap cN1 "COMPACT_STRINGS" "Z" (.int G1)) (P5 : ¬ (G1 = (0 : Int32))) (ge_sb : n0 ≤ sb) (ne_sx_sb : sx ≠ sb) (ne_bx_sb : bx ≠ sb) (O4 : Sta Z Z.heap cN5 "SIOOBE_FORMATTER" "Ljava/util/function/BiFunction;" G3) (rG3 : G3.isRef = true) (Sas : Sta Z Z.heap cN2 "$assertionsDisabled" "Z" (.int 1)) (SHI : Sta Z Z.heap cN2 "HI_BYTE_SHIFT" "I" (.int 0)) (SLO : Sta Z Z.heap cN2 "LO_BYTE_SHIFT" "I" (.int 8)) (hC : C11_68 cn K cm n2 K2) :
  own_CN l Z y27 jdk_67_method_7_code 2 (some (.object cN6)) [] R11_68 #[.ref sb, .ref sx] h0 (Q11_68 Z sb ta cs cn K sx bx ds cm n2 K2 G1 G3 h0 n0) := by
 refine own_entryN (plainFor_of_name pn_6) fun p e s m below meth c s₁ hx hby hml hown hnm hret hlk hZ hh X0 e0 => ?_
 obtain ⟨hn13, hn14, hn15, hn16, hn17, hn18, hn19, hn20, hn21, hn22, hn23, hn24, hn25, hn26, hn27, hn28, hn29, hn30, hn31, hn32, hn33, hn34, hn35, hn36, hn37, hn38, hn39, hn40, hn41, hn42, hn43, hn44, hn45, hn46, hn47, hn48, hn49, hn50, hn51, hn52, hn53, hn54, hn55, hn56, hn57, hn58, hn59, hn60, hn61, hn62, hn63, hn64, hn65, hn66, hn67⟩ := hC
 have N0 := Fr.nil n0
 rw [ef_17_21 m sb sx]
 refine og s₁ (mkF m 2 #[vR sb, vR sx] [.ref sx, .ref sb]) (fun _ k => qa X0 hx hby d11_0 rfl rfl rfl (qa X0 hx hby d11_1 rfl rfl rfl k)) ?_
 obtain ⟨_, _, ⟨T2, L2, k2, n2⟩, -, X2, ⟨Lc2, hQ2, l2, y2, z2⟩, st2⟩ := superBack X0 hx hZ (y := y26) hown (ow hw 81) (own_same (z := y12) (ow hw 101) (ow hw 82) rfl (by decide)) (ow hw 82) (ow hw 83) (by decide) (backOf (W := 0) (rm12_69 l Z a0 hw sb ta cs cn K sx bx ds cm n2 K2 G1 G3 h0 n0 OLD S_sb A' S_sx O2 P5 ge_sb ne_sx_sb ne_bx_sb O4 rG3 Sas SHI SLO ⟨hn13, hn14, hn15, hn16, hn17, hn18, hn19, hn20, hn21, hn22, hn23, hn24, hn25, hn26, hn27, hn28, hn29, hn30, hn31, hn32, hn33, hn34, hn35, hn36, hn37, hn38, hn39, hn40, hn41, hn42, hn43, hn44, hn45, hn46, hn47, hn48, hn49, hn50, hn51, hn52, hn53, hn54, hn55, hn56, hn57, hn58, hn59, hn60, hn61, hn62, hn63, hn64, hn65, hn66, hn67⟩) hZ (ow hw 85) (ow hw 68) (lb rfl) (lb rfl)) e0 (Ins.self S_sb.1) (g := (mkF m 2 #[vR sb, vR sx] [.ref sx, .ref sb])) rfl (zs hml) (ow hw 85) (argsL := [.ref sx]) (rest := []) (lenOf pd_21 rfl) rfl (lb rfl) (hb hby d11_2) (fun _ _ => ⟨rfl, e0, (lb rfl), (lb rfl)⟩)
 dsimp only [Pt.U, Pt.locs, Pt.cells, Pt.slots] at X2 l2 y2 z2 st2 hQ2
 subst l2 y2 z2
 obtain ⟨o3, rfl, Nq2, K2, f4, f5, f6⟩ := hQ2
 have N2 := Fr.app N0 Nq2
 have g7 : n0 ≤ o3 := Nat.le_trans (own_osz OLD) f4
 have z8 : h0.size ≤ o3 := Nat.le_trans (Nat.le_refl _) f4
 refine og T2 (mkF m 7 #[vR sb, vR sx] [.ref sb]) (fun _ k => st2.trans (XS.pop X2.here hx rfl (hb hby d11_5) rfl rfl (qa X2 hx hby d11_6 rfl rfl rfl k))) ?_
 have KEEP := ((Keep.refl h0 [sb]).trans K2 (allS (Or.inl (List.mem_of_getElem? (i := 0) rfl)) all0))
 exact own_leaveN X2 hlk (v := some (.ref sb)) (own_nr hret) (lb rfl) (lb rfl) (by exact ⟨o3, rfl, N2, KEEP, z8, f5, f6⟩) (own_ra X2 hx hret rfl rfl rfl (hb hby d11_7))
abbrev R31_78 : Room := { frames := 1, cells := 1, slots := 400, locals := 14 }
def Q31_78 (Z : State) (ra0 : Addr) (kc1 : ClassId) (cs2 : List Int32) (nl2 : Nat) (cn1 cn2 cn3 : Int32) (h0 : Heap) (n0 : Nat) (v : Option Value) (h : Heap) (L : List Loc) : Prop := (∃ (b2 : Addr) (kc1 : ClassId), v = some (.ref b2) ∧ Fr n0 L ∧ Keep h0 h [] ∧ h0.size ≤ b2 ∧ Exa Z h b2 "[B" ∧ Arv Z h b2 kc1 .byte cn1 (own_by cs2) (.int 0))
theorem rm31_78 l Z a0 (hw : HW Z a0) ra0 kc1 (cs2 : List Int32) nl2 (cn1 : Int32) (cn2 : Int32) (cn3 : Int32) h0 n0 (OLD : Old Z n0 h0) (A' : Exa Z h0 ra0 "[B") (B' : cs2.length = nl2) (C' : own_L cs2) (D' : Arv Z h0 ra0 kc1 .byte cn1 (own_by cs2) (.int 0)) (hn4 : cn2 = (0 : Int32)) (hn5 : cn3 = cn1) (hn6 : cn1.toNatClampNeg ≤ 400) :
  own_CN l Z y38 jdk_65_method_132_code 3 (some (.array .byte)) [] R31_78 #[.ref ra0, .int cn2, .int cn3] h0 (Q31_78 Z ra0 kc1 cs2 nl2 cn1 cn2 cn3 h0 n0) := by
 refine own_entryN (plainFor_of_name pn_9) fun p e s m below meth c s₁ hx hby hml hown hnm hret hlk hZ hh X0 e0 => ?_
 have N0 := Fr.nil n0
 rw [ef_55_1 m ra0 cn2 cn3]
 refine og s₁ (mkF m 6 #[vR ra0, vI cn2, vI cn3] [.ref ra0, .int cn3]) (fun _ k => qi X0 hx hby d31_0 rfl rfl (XS.ifNo X0.here hx rfl (hb hby d31_1) rfl ((if0 _ _).trans (teq hn4).2) (qi X0 hx hby d31_4 rfl rfl (qa X0 hx hby d31_5 rfl rfl rfl k)))) ?_
 obtain ⟨cl1, Ar1, -, Sr1, Nr1, -, -⟩ := id D'
 refine og s₁ (mkF m 7 #[vR ra0, vI cn2, vI cn3] [.int cn1, .int cn3]) (fun t k => X0.arraylength hx (by rw [e0]; exact Ar1.1) (State.isArrayOf_alike hZ.alike Ar1.2.1) (g := (mkF m 6 #[vR ra0, vI cn2, vI cn3] [.ref ra0, .int cn3])) rfl rfl (hb hby d31_6) t (by rw [len_of Sr1 Nr1]; exact k)) ?_
 refine og s₁ (mkF m 18 #[vR ra0, vI cn2, vI cn3] [.ref ra0]) (fun _ k => XS.icmpYes X0.here hx rfl (pc0 := 7) (pc' := 17) rfl (hb hby d31_7) rfl (teq hn5).1 (by decide) (by decide) (qa X0 hx hby d31_17 rfl rfl rfl k)) ?_
 obtain ⟨T2, h2, X2, e2, E2, V2, Ea2, st2⟩ := own_clB X0 hx hZ hown (ow hw 205) (ow hw 206) (ow hw 210) (ow hw 208) (ow hw 209) (ow hw 211) e0 D' A' (g := (mkF m 18 #[vR ra0, vI cn2, vI cn3] [.ref ra0])) rfl (zs hml) (rest := []) rfl (hb hby d31_18) (lb rfl) (W := 0) (cap := 400) (lb rfl) (lb rfl) hn6 (lb rfl) (lb rfl)
 obtain ⟨b2, gb2⟩ : ∃ z, z = h0.size := ⟨_, rfl⟩
 rw [← gb2] at V2 Ea2 st2
 have g3 : n0 ≤ b2 := Nat.le_trans (own_osz OLD) (Nat.le_of_eq gb2.symm)
 have z4 : h0.size ≤ b2 := Nat.le_trans (Nat.le_refl _) (Nat.le_of_eq gb2.symm)
 refine og T2 (mkF m 21 #[vR ra0, vI cn2, vI cn3] [.ref b2]) st2 ?_
 obtain ⟨T5, X5, e5, st5⟩ := castY X2 hx hZ hown (ow hw 212) e2 (Ins.self Ea2) (g := (mkF m 21 #[vR ra0, vI cn2, vI cn3] [.ref b2])) rfl rfl (hb hby d31_21)
 refine og T5 (mkF m 24 #[vR ra0, vI cn2, vI cn3] [.ref b2]) st5 ?_
 have KEEP := ((Keep.refl h0 []).ext E2)
 exact own_leaveN X5 hlk (v := some (.ref b2)) (own_nr hret) (lb rfl) (lb rfl) (by rw [e5]; exact ⟨b2, kc1, rfl, N0, KEEP, z4, Ea2, V2⟩) (own_ra X5 hx hret rfl rfl rfl (hb hby d31_24))
abbrev R31_79 : Room := { frames := 1, cells := 1, slots := 400, locals := 14 }
def Q31_79 (Z : State) (ra0 : Addr) (kc1 : ClassId) (cs2 : List Int32) (nl2 : Nat) (cn1 cn2 cn3 : Int32) (h0 : Heap) (n0 : Nat) (v : Option Value) (h : Heap) (L : List Loc) : Prop := (∃ (b2 : Addr) (kc1 : ClassId), v = some (.ref b2) ∧ Fr n0 L ∧ Keep h0 h [] ∧ h0.size ≤ b2 ∧ Exa Z h b2 "[B" ∧ Arv Z h b2 kc1 .byte cn1 (own_by cs2) (.int 0))
theorem rm31_79 l Z a0 (hw : HW Z a0) ra0 kc1 (cs2 : List Int32) nl2 (cn1 : Int32) (cn2 : Int32) (cn3 : Int32) h0 n0 (OLD : Old Z n0 h0) (A' : Exa Z h0 ra0 "[B") (B' : cs2.length = nl2) (C' : Arv Z h0 ra0 kc1 .byte cn1 (own_by cs2) (.int 0)) (hn3 : cn2 = (0 : Int32)) (hn4 : cn3 = cn1) (hn5 : cn1.toNatClampNeg ≤ 400) :
  own_CN l Z y38 jdk_65_method_132_code 3 (some (.array .byte)) [] R31_79 #[.ref ra0, .int cn2, .int cn3] h0 (Q31_79 Z ra0 kc1 cs2 nl2 cn1 cn2 cn3 h0 n0) := by
 refine own_entryN (plainFor_of_name pn_9) fun p e s m below meth c s₁ hx hby hml hown hnm hret hlk hZ hh X0 e0 => ?_
 have N0 := Fr.nil n0
 rw [ef_55_1 m ra0 cn2 cn3]
 refine og s₁ (mkF m 6 #[vR ra0, vI cn2, vI cn3] [.ref ra0, .int cn3]) (fun _ k => qi X0 hx hby d31_0 rfl rfl (XS.ifNo X0.here hx rfl (hb hby d31_1) rfl ((if0 _ _).trans (teq hn3).2) (qi X0 hx hby d31_4 rfl rfl (qa X0 hx hby d31_5 rfl rfl rfl k)))) ?_
 obtain ⟨cl1, Ar1, -, Sr1, Nr1, -, -⟩ := id C'
 refine og s₁ (mkF m 7 #[vR ra0, vI cn2, vI cn3] [.int cn1, .int cn3]) (fun t k => X0.arraylength hx (by rw [e0]; exact Ar1.1) (State.isArrayOf_alike hZ.alike Ar1.2.1) (g := (mkF m 6 #[vR ra0, vI cn2, vI cn3] [.ref ra0, .int cn3])) rfl rfl (hb hby d31_6) t (by rw [len_of Sr1 Nr1]; exact k)) ?_
 refine og s₁ (mkF m 18 #[vR ra0, vI cn2, vI cn3] [.ref ra0]) (fun _ k => XS.icmpYes X0.here hx rfl (pc0 := 7) (pc' := 17) rfl (hb hby d31_7) rfl (teq hn4).1 (by decide) (by decide) (qa X0 hx hby d31_17 rfl rfl rfl k)) ?_
 obtain ⟨T2, h2, X2, e2, E2, V2, Ea2, st2⟩ := own_clB X0 hx hZ hown (ow hw 205) (ow hw 206) (ow hw 210) (ow hw 208) (ow hw 209) (ow hw 211) e0 C' A' (g := (mkF m 18 #[vR ra0, vI cn2, vI cn3] [.ref ra0])) rfl (zs hml) (rest := []) rfl (hb hby d31_18) (lb rfl) (W := 0) (cap := 400) (lb rfl) (lb rfl) hn5 (lb rfl) (lb rfl)
 obtain ⟨b2, gb2⟩ : ∃ z, z = h0.size := ⟨_, rfl⟩
 rw [← gb2] at V2 Ea2 st2
 have g3 : n0 ≤ b2 := Nat.le_trans (own_osz OLD) (Nat.le_of_eq gb2.symm)
 have z4 : h0.size ≤ b2 := Nat.le_trans (Nat.le_refl _) (Nat.le_of_eq gb2.symm)
 refine og T2 (mkF m 21 #[vR ra0, vI cn2, vI cn3] [.ref b2]) st2 ?_
 obtain ⟨T5, X5, e5, st5⟩ := castY X2 hx hZ hown (ow hw 212) e2 (Ins.self Ea2) (g := (mkF m 21 #[vR ra0, vI cn2, vI cn3] [.ref b2])) rfl rfl (hb hby d31_21)
 refine og T5 (mkF m 24 #[vR ra0, vI cn2, vI cn3] [.ref b2]) st5 ?_
 have KEEP := ((Keep.refl h0 []).ext E2)
 exact own_leaveN X5 hlk (v := some (.ref b2)) (own_nr hret) (lb rfl) (lb rfl) (by rw [e5]; exact ⟨b2, kc1, rfl, N0, KEEP, z4, Ea2, V2⟩) (own_ra X5 hx hret rfl rfl rfl (hb hby d31_24))
abbrev R26_77 : Room := { frames := 2, cells := 1, slots := 400, locals := 29 }
def Q26_77 (Z : State) (ra0 ra1 ra2 : Addr) (cs3 : List Int32) (cn0 cn1 : Int32) (cn2 G1 : Int32) (h0 : Heap) (n0 : Nat) (v : Option Value) (h : Heap) (L : List Loc) : Prop := (∃ (eq0 : Addr) (eq1 : ClassId), v = none ∧ Fr n0 L ∧ Keep h0 h [ra0] ∧ h0.size ≤ eq0 ∧ own_st Z h ra0 eq0 cs3 cn0)
abbrev C26_77 (cn0 : Int32) (cn1 : Int32) (cn2 : Int32) : Prop := (cn2 = cn1) ∧ (cn1.toNatClampNeg ≤ 400) ∧ (cn1 = cn0) ∧ ((cn2 <<< ((1 : Int32) &&& 31)) = (cn1 <<< ((1 : Int32) &&& 31))) ∧ ((cn1 <<< ((1 : Int32) &&& 31)).toNatClampNeg ≤ 400) ∧ ((cn1 <<< ((1 : Int32) &&& 31)) = (cn0 <<< ((1 : Int32) &&& 31)))
theorem rm26_77 l Z a0 (hw : HW Z a0) ra0 ra1 ra2 (cs3 : List Int32) (cn0 : Int32) (cn1 : Int32) (cn2 : Int32) (G1 : Int32) h0 n0 (OLD : Old Z n0 h0) (A' : Exa Z h0 ra0 cN1) (B' : Fld Z h0 ra0 cN1 "coder" "B" (.int 0)) (C' : Fld Z h0 ra0 cN1 "value" "[B" .null) (S_ra1 : own_sb Z h0 ra1 ra2 cs3 cn0 cn1) (D' : Fld Z h0 ra1 cN0 "count" "I" (.int cn2)) (O2 : Sta Z Z.heap cN1 "COMPACT_STRINGS" "Z" (.int G1)) (P5 : ¬ (G1 = (0 : Int32))) (E' : n0 ≤ ra0) (ne_ra2_ra0 : ra2 ≠ ra0) (hC : C26_77 cn0 cn1 cn2) :
  own_CN l Z y39 jdk_42_method_150_code 5 none [] R26_77 #[.ref ra0, .ref ra1, .null] h0 (Q26_77 Z ra0 ra1 ra2 cs3 cn0 cn1 cn2 G1 h0 n0) := by
 refine own_entryN (plainFor_of_name pn_2) fun p e s m below meth c s₁ hx hby hml hown hnm hret hlk hZ hh X0 e0 => ?_
 obtain ⟨hn9, hn10, hn11, hn12, hn13, hn14⟩ := hC
 have N0 := Fr.nil n0
 rw [ef_26_55 m ra0 ra1]
 obtain ⟨kc1, ⟨Fc1, Vc1, lc1⟩ | ⟨Fc1, Vc1, lc1⟩⟩ := S_ra1.2.2.2.2.2
 ·
  refine og s₁ (mkF m 1 #[vR ra0, vR ra1, vN, vU, vU] [.ref ra0]) (fun _ k => qa X0 hx hby d26_0 rfl rfl rfl k) ?_
  obtain ⟨T2, X2, e2, st2⟩ := initO X0 hx hZ hown (ow hw 22) (ow hw 23) (ow hw 24) e0 (g := (mkF m 1 #[vR ra0, vR ra1, vN, vU, vU] [.ref ra0])) rfl (zs hml) rfl (hb hby d26_1) (by decide) (W := 0) (lb rfl) (by decide)
  refine og T2 (mkF m 5 #[vR ra0, vR ra1, vN, vU, vU] [.ref ra1]) (fun _ k => st2 _ (qa X2 hx hby d26_4 rfl rfl rfl k)) ?_
  obtain ⟨_, T3, L3, X3, hQ3, st3⟩ := own_vc X2 hx hZ hown (ow hw 160) (ow hw 161) (ow hw 163) (ow hw 162) S_ra1.1 (rm27_56 l Z a0 hw ra1 ra2 h0 n0 OLD S_ra1.2.1) (ow hw 164) (ow hw 68) e2 (g := (mkF m 5 #[vR ra0, vR ra1, vN, vU, vU] [.ref ra1])) rfl (zs hml) (argsL := []) (rest := []) (lenOf pd_25 rfl) rfl (hb hby d26_5) (W := 0) rfl
  obtain ⟨rfl, Nq3, eq3⟩ := hQ3
  have N3 := Fr.app N0 Nq3
  refine og T3 (mkF m 10 #[vR ra0, vR ra1, vN, vR ra2, vU] [.ref ra1]) (fun _ k => st3.trans (XS.astoreN X3.here hx rfl (hb hby d26_8) rfl rfl (l' := #[vR ra0, vR ra1, vN, vR ra2, vU]) rfl (qa X3 hx hby d26_9 rfl rfl rfl k))) ?_
  obtain ⟨cq5, kq5, q5a, q5b, q5c⟩ := isOf hZ eq3 S_ra1.1
  obtain ⟨_, _, ⟨T5, L5, k5, n5⟩, -, X5, ⟨Lc5, hQ5, l5, y5, z5⟩, st5⟩ := X3.virtualBack hx (y := y34) (z := y35) hown (mvT hZ (ow hw 165)) (mvT hZ (ow hw 166)) (own_nf (args := #[]) (z := y12) (mvT hZ (ow hw 101)) rfl) (mvT hZ (ow hw 168)) (mvT hZ (ow hw 169)) (by decide) (backOf (W := 0) (rm28_57 l Z a0 hw ra1 cn2 h0 n0 OLD D' S_ra1.1) hZ (ow hw 170) (ow hw 60) (lb rfl) (lb rfl)) q5a q5c (g := (mkF m 10 #[vR ra0, vR ra1, vN, vR ra2, vU] [.ref ra1])) rfl (zs hml) (Steps.refl _) (argsL := []) (rest := []) (lenOf pd_9 rfl) rfl (lb rfl) (hb hby d26_10) (fun _ _ => ⟨rfl, eq3, (lb rfl), (lb rfl)⟩)
  dsimp only [Pt.U, Pt.locs, Pt.cells, Pt.slots] at X5 l5 y5 z5 st5 hQ5
  subst l5 y5 z5
  obtain ⟨rfl, Nq5, eq5⟩ := hQ5
  have N5 := Fr.app N3 Nq5
  refine og T5 (mkF m 16 #[vR ra0, vR ra1, vN, vR ra2, vI cn2] [.ref ra1]) (fun _ k => st5.trans (XS.istore X5.here hx rfl (hb hby d26_13) rfl (l' := #[vR ra0, vR ra1, vN, vR ra2, vI cn2]) rfl (qa X5 hx hby d26_15 rfl rfl rfl k))) ?_
  obtain ⟨_, T6, L6, X6, hQ6, st6⟩ := own_vc X5 hx hZ hown (ow hw 173) (ow hw 174) (ow hw 176) (ow hw 175) S_ra1.1 (rm30_25 l Z a0 hw ra1 G1 ((0 : Int32)) h0 n0 OLD O2 P5 Fc1) (ow hw 177) (ow hw 68) eq5 (g := (mkF m 16 #[vR ra0, vR ra1, vN, vR ra2, vI cn2] [.ref ra1])) rfl (zs hml) (argsL := []) (rest := []) (lenOf pd_12 rfl) rfl (hb hby d26_16) (W := 0) rfl
  rcases hQ6 with hQ6 | hQ6
  ·
   obtain ⟨hc7, rfl, Nq6, eq6⟩ := hQ6
   have N6 := Fr.app N5 Nq6
   refine og T6 (mkF m 24 #[vR ra0, vR ra1, vN, vR ra2, vI cn2] [.int 0, .ref ra0]) (fun _ k => st6.trans (XS.ifNo X6.here hx rfl (hb hby d26_19) rfl ((if0 _ _).trans (feq (by decide : ¬ ((1 : Int32) = (0 : Int32)))).1) (qa X6 hx hby d26_22 rfl rfl rfl (qc X6 hx hby d26_23 rfl k)))) ?_
   obtain ⟨T8, h8, X8, e8, W8, st8⟩ := putFN X6 hx hZ hown (ow hw 27) Via.refl eq6 B' A' (Or.inr ⟨(ow hw 28), rfl, hnm⟩) (ow hw 13) (ty := .byte) (v' := (.int (nar .byte (0 : Int32)))) (by decide) rfl (fits_nar_byte _) (g := (mkF m 24 #[vR ra0, vR ra1, vN, vR ra2, vI cn2] [.int 0, .ref ra0])) rfl rfl (hb hby d26_24)
   rw [show nar .byte (0 : Int32) = (0 : Int32) from rfl] at W8
   have Fw8 := B'.same W8
   have N8 := Fr.snoc X8 N6 E'
   refine og T8 (mkF m 32 #[vR ra0, vR ra1, vN, vR ra2, vI cn2] [.int cn2, .int 0, .ref ra2, .ref ra0]) (fun _ k => st8 _ (qa X8 hx hby d26_27 rfl rfl rfl (qa X8 hx hby d26_28 rfl rfl rfl (qc X8 hx hby d26_29 rfl (XS.iload X8.here hx rfl (hb hby d26_30) rfl k))))) ?_
   have F9 := (S_ra1.2.2.2.1.wr W8)
   have F10 := (Vc1.other W8 ne_ra2_ra0)
   have F11 := (OLD.wr W8 E')
   obtain ⟨_, T12, L12, X12, hQ12, st12⟩ := own_tc X8 hx hZ hown (ow hw 178) (ow hw 179) (rm31_78 l Z a0 hw ra2 kc1 cs3 (cn0.toNatClampNeg) cn1 ((0 : Int32)) cn2 h8 n0 F11 F9 (S_ra1.2.2.2.2.1) lc1 F10 hc7 hn9 hn10) (ow hw 180) (ow hw 141) e8 (g := (mkF m 32 #[vR ra0, vR ra1, vN, vR ra2, vI cn2] [.int cn2, .int 0, .ref ra2, .ref ra0])) rfl (zs hml) (argsL := [.ref ra2, .int 0, .int cn2]) (rest := [.ref ra0]) (lenOf pd_27 rfl) rfl (hb hby d26_32) (W := 1) rfl
   obtain ⟨o13, kc14, rfl, Nq12, K12, f15, f16, f17⟩ := hQ12
   have N12 := Fr.app N8 Nq12
   have g18 : n0 ≤ o13 := Nat.le_trans (own_osz F11) f15
   have F20 := (Nat.le_trans (Nat.le_refl _) (Nat.le_of_eq W8.size.symm))
   have z19 : h0.size ≤ o13 := Nat.le_trans F20 f15
   refine ot T12 (mkF m 35 #[vR ra0, vR ra1, vN, vR ra2, vI cn2] [.ref o13, .ref ra0]) st12 ?_
   have F21 := ((A'.wr W8).keep K12)
   have F22 := ((C'.other W8 (Or.inr (slot_ne (Or.inr (ow hw 26)) (Or.inr (ow hw 28)) (by decide) (t := (.array .byte)) (t' := .byte) (by decide) (by decide)))).keep K12 nin0)
   obtain ⟨T23, h23, X23, e23, W23, st23⟩ := putF X12 hx hZ hown (host := "") (Or.inl (ow hw 25)) Via.refl rfl F22 F21 (Or.inr ⟨(ow hw 26), rfl, hnm⟩) (ow hw 13) (ty := (.array .byte)) (by decide) rfl rfl (g := (mkF m 35 #[vR ra0, vR ra1, vN, vR ra2, vI cn2] [.ref o13, .ref ra0])) rfl rfl (hb hby d26_35)
   have Fw23 := F22.same W23
   have N23 := Fr.snoc X23 N12 E'
   refine og T23 (mkF m 97 #[vR ra0, vR ra1, vN, vR ra2, vI cn2] []) (fun _ k => st23 _ (XS.goto X23.here hx rfl (pc0 := 38) (pc' := 97) rfl (hb hby d26_38) (by decide) (by decide) k)) ?_
   have ne24 : ra0 ≠ o13 := (own_ne_lo (Nat.lt_of_lt_of_le A'.lt (Nat.le_of_eq W8.size.symm)) f15)
   have F25 := (f17.other W23 (Ne.symm ne24))
   have F27 := (F21.wr W23)
   have F28 := ((Fw8.keep K12 nin0).other W23 (Or.inr (slot_ne (Or.inr (ow hw 28)) (Or.inr (ow hw 26)) (by decide) (t := .byte) (t' := (.array .byte)) (by decide) (by decide))))
   have S26 : own_st Z h23 ra0 o13 cs3 cn0 := own_stL F27 Fw23 (S_ra1.2.2.2.2.1) F28 (own_castz hn11 F25) lc1
   have KEEP := ((((Keep.refl h0 [ra0]).wr W8 (Or.inl (List.mem_of_getElem? (i := 0) rfl))).trans K12 all0).wr W23 (Or.inl (List.mem_of_getElem? (i := 0) rfl)))
   exact own_leaveN X23 hlk (v := none) (fun _ => rfl) (lb rfl) (lb rfl) (by rw [e23]; exact ⟨o13, kc14, rfl, N23, KEEP, z19, S26⟩) (fun fs hr => X23.returnOut hx hret (hb hby d26_97) hr)
  ·
   exfalso
   obtain ⟨hd0, -⟩ := hQ6
   exact absurd hd0 (fun q => q (by decide : (0 : Int32) = (0 : Int32)))
 ·
  refine og s₁ (mkF m 1 #[vR ra0, vR ra1, vN, vU, vU] [.ref ra0]) (fun _ k => qa X0 hx hby d26_0 rfl rfl rfl k) ?_
  obtain ⟨T29, X29, e29, st29⟩ := initO X0 hx hZ hown (ow hw 22) (ow hw 23) (ow hw 24) e0 (g := (mkF m 1 #[vR ra0, vR ra1, vN, vU, vU] [.ref ra0])) rfl (zs hml) rfl (hb hby d26_1) (by decide) (W := 0) (lb rfl) (by decide)
  refine og T29 (mkF m 5 #[vR ra0, vR ra1, vN, vU, vU] [.ref ra1]) (fun _ k => st29 _ (qa X29 hx hby d26_4 rfl rfl rfl k)) ?_
  obtain ⟨_, T30, L30, X30, hQ30, st30⟩ := own_vc X29 hx hZ hown (ow hw 160) (ow hw 161) (ow hw 163) (ow hw 162) S_ra1.1 (rm27_56 l Z a0 hw ra1 ra2 h0 n0 OLD S_ra1.2.1) (ow hw 164) (ow hw 68) e29 (g := (mkF m 5 #[vR ra0, vR ra1, vN, vU, vU] [.ref ra1])) rfl (zs hml) (argsL := []) (rest := []) (lenOf pd_25 rfl) rfl (hb hby d26_5) (W := 0) rfl
  obtain ⟨rfl, Nq30, eq30⟩ := hQ30
  have N30 := Fr.app N0 Nq30
  refine og T30 (mkF m 10 #[vR ra0, vR ra1, vN, vR ra2, vU] [.ref ra1]) (fun _ k => st30.trans (XS.astoreN X30.here hx rfl (hb hby d26_8) rfl rfl (l' := #[vR ra0, vR ra1, vN, vR ra2, vU]) rfl (qa X30 hx hby d26_9 rfl rfl rfl k))) ?_
  obtain ⟨cq32, kq32, q32a, q32b, q32c⟩ := isOf hZ eq30 S_ra1.1
  obtain ⟨_, _, ⟨T32, L32, k32, n32⟩, -, X32, ⟨Lc32, hQ32, l32, y32, z32⟩, st32⟩ := X30.virtualBack hx (y := y34) (z := y35) hown (mvT hZ (ow hw 165)) (mvT hZ (ow hw 166)) (own_nf (args := #[]) (z := y12) (mvT hZ (ow hw 101)) rfl) (mvT hZ (ow hw 168)) (mvT hZ (ow hw 169)) (by decide) (backOf (W := 0) (rm28_57 l Z a0 hw ra1 cn2 h0 n0 OLD D' S_ra1.1) hZ (ow hw 170) (ow hw 60) (lb rfl) (lb rfl)) q32a q32c (g := (mkF m 10 #[vR ra0, vR ra1, vN, vR ra2, vU] [.ref ra1])) rfl (zs hml) (Steps.refl _) (argsL := []) (rest := []) (lenOf pd_9 rfl) rfl (lb rfl) (hb hby d26_10) (fun _ _ => ⟨rfl, eq30, (lb rfl), (lb rfl)⟩)
  dsimp only [Pt.U, Pt.locs, Pt.cells, Pt.slots] at X32 l32 y32 z32 st32 hQ32
  subst l32 y32 z32
  obtain ⟨rfl, Nq32, eq32⟩ := hQ32
  have N32 := Fr.app N30 Nq32
  refine og T32 (mkF m 16 #[vR ra0, vR ra1, vN, vR ra2, vI cn2] [.ref ra1]) (fun _ k => st32.trans (XS.istore X32.here hx rfl (hb hby d26_13) rfl (l' := #[vR ra0, vR ra1, vN, vR ra2, vI cn2]) rfl (qa X32 hx hby d26_15 rfl rfl rfl k))) ?_
  obtain ⟨_, T33, L33, X33, hQ33, st33⟩ := own_vc X32 hx hZ hown (ow hw 173) (ow hw 174) (ow hw 176) (ow hw 175) S_ra1.1 (rm30_25 l Z a0 hw ra1 G1 ((1 : Int32)) h0 n0 OLD O2 P5 Fc1) (ow hw 177) (ow hw 68) eq32 (g := (mkF m 16 #[vR ra0, vR ra1, vN, vR ra2, vI cn2] [.ref ra1])) rfl (zs hml) (argsL := []) (rest := []) (lenOf pd_12 rfl) rfl (hb hby d26_16) (W := 0) rfl
  rcases hQ33 with hQ33 | hQ33
  ·
   exfalso
   obtain ⟨hd0, -⟩ := hQ33
   exact absurd hd0 (by decide : ¬ ((1 : Int32) = (0 : Int32)))
  ·
   obtain ⟨hc34, rfl, Nq33, eq33⟩ := hQ33
   have N33 := Fr.app N32 Nq33
   refine og T33 (mkF m 41 #[vR ra0, vR ra1, vN, vR ra2, vI cn2] []) (fun _ k => st33.trans (XS.ifYes X33.here hx rfl (pc0 := 19) (pc' := 41) rfl (hb hby d26_19) rfl ((if0 _ _).trans (teq (by decide : (0 : Int32) = (0 : Int32))).1) (by decide) (by decide) k)) ?_
   obtain ⟨T35, X35, e35, st35⟩ := getS2 X33 hx hZ hown (host := "") (Or.inl (ow hw 7)) Via.refl eq33 (O2.ext OLD.2) (g := (mkF m 41 #[vR ra0, vR ra1, vN, vR ra2, vI cn2] [])) rfl (hb hby d26_41)
   refine og T35 (mkF m 48 #[vR ra0, vR ra1, vN, vR ra2, vI cn2] [.ref ra1]) (fun _ k => st35 _ (XS.ifNo X35.here hx rfl (hb hby d26_44) rfl ((if0 _ _).trans (feq P5).1) (qa X35 hx hby d26_47 rfl rfl rfl k))) ?_
   obtain ⟨T36, X36, e36, st36⟩ := getF X35 hx hZ hown (host := "") (Or.inl (ow hw 367)) Via.refl e35 S_ra1.2.2.1 (g := (mkF m 48 #[vR ra0, vR ra1, vN, vR ra2, vI cn2] [.ref ra1])) rfl rfl (hb hby d26_48)
   refine og T36 (mkF m 81 #[vR ra0, vR ra1, vN, vR ra2, vI cn2] [.int 1, .ref ra0]) (fun _ k => st36 _ (XS.ifYes X36.here hx rfl (pc0 := 51) (pc' := 79) rfl (hb hby d26_51) rfl ((if0 _ _).trans (teq (by decide : (0 : Int32) = (0 : Int32))).1) (by decide) (by decide) (qa X36 hx hby d26_79 rfl rfl rfl (qc X36 hx hby d26_80 rfl k)))) ?_
   obtain ⟨T37, h37, X37, e37, W37, st37⟩ := putFN X36 hx hZ hown (ow hw 27) Via.refl e36 B' A' (Or.inr ⟨(ow hw 28), rfl, hnm⟩) (ow hw 13) (ty := .byte) (v' := (.int (nar .byte (1 : Int32)))) (by decide) rfl (fits_nar_byte _) (g := (mkF m 81 #[vR ra0, vR ra1, vN, vR ra2, vI cn2] [.int 1, .ref ra0])) rfl rfl (hb hby d26_81)
   rw [show nar .byte (1 : Int32) = (1 : Int32) from rfl] at W37
   have Fw37 := B'.same W37
   have N37 := Fr.snoc X37 N33 E'
   refine og T37 (mkF m 91 #[vR ra0, vR ra1, vN, vR ra2, vI cn2] [(.int (cn2 <<< ((1 : Int32) &&& 31))), .int 0, .ref ra2, .ref ra0]) (fun _ k => st37 _ (qa X37 hx hby d26_84 rfl rfl rfl (qa X37 hx hby d26_85 rfl rfl rfl (qc X37 hx hby d26_86 rfl (XS.iload X37.here hx rfl (hb hby d26_87) rfl (qc X37 hx hby d26_89 rfl (XS.ishl X37.here hx rfl (hb hby d26_90) rfl k))))))) ?_
   have F38 := (S_ra1.2.2.2.1.wr W37)
   have F39 := (Vc1.other W37 ne_ra2_ra0)
   have F40 := (OLD.wr W37 E')
   obtain ⟨_, T41, L41, X41, hQ41, st41⟩ := own_tc X37 hx hZ hown (ow hw 178) (ow hw 179) (rm31_79 l Z a0 hw ra2 kc1 ((own_u cs3)) ((2 * cn0.toNatClampNeg)) ((cn1 <<< ((1 : Int32) &&& 31))) ((0 : Int32)) ((cn2 <<< ((1 : Int32) &&& 31))) h37 n0 F40 F38 (own_ul (S_ra1.2.2.2.2.1)) F39 (by decide : (0 : Int32) = (0 : Int32)) hn12 hn13) (ow hw 180) (ow hw 141) e37 (g := (mkF m 91 #[vR ra0, vR ra1, vN, vR ra2, vI cn2] [(.int (cn2 <<< ((1 : Int32) &&& 31))), .int 0, .ref ra2, .ref ra0])) rfl (zs hml) (argsL := [.ref ra2, .int 0, (.int (cn2 <<< ((1 : Int32) &&& 31)))]) (rest := [.ref ra0]) (lenOf pd_27 rfl) rfl (hb hby d26_91) (W := 1) rfl
   obtain ⟨o42, kc43, rfl, Nq41, K41, f44, f45, f46⟩ := hQ41
   have N41 := Fr.app N37 Nq41
   have g47 : n0 ≤ o42 := Nat.le_trans (own_osz F40) f44
   have F49 := (Nat.le_trans (Nat.le_refl _) (Nat.le_of_eq W37.size.symm))
   have z48 : h0.size ≤ o42 := Nat.le_trans F49 f44
   refine ot T41 (mkF m 94 #[vR ra0, vR ra1, vN, vR ra2, vI cn2] [.ref o42, .ref ra0]) st41 ?_
   have F50 := ((A'.wr W37).keep K41)
   have F51 := ((C'.other W37 (Or.inr (slot_ne (Or.inr (ow hw 26)) (Or.inr (ow hw 28)) (by decide) (t := (.array .byte)) (t' := .byte) (by decide) (by decide)))).keep K41 nin0)
   obtain ⟨T52, h52, X52, e52, W52, st52⟩ := putF X41 hx hZ hown (host := "") (Or.inl (ow hw 25)) Via.refl rfl F51 F50 (Or.inr ⟨(ow hw 26), rfl, hnm⟩) (ow hw 13) (ty := (.array .byte)) (by decide) rfl rfl (g := (mkF m 94 #[vR ra0, vR ra1, vN, vR ra2, vI cn2] [.ref o42, .ref ra0])) rfl rfl (hb hby d26_94)
   have Fw52 := F51.same W52
   have N52 := Fr.snoc X52 N41 E'
   refine og T52 (mkF m 97 #[vR ra0, vR ra1, vN, vR ra2, vI cn2] []) st52 ?_
   have ne53 : ra0 ≠ o42 := (own_ne_lo (Nat.lt_of_lt_of_le A'.lt (Nat.le_of_eq W37.size.symm)) f44)
   have F54 := (f46.other W52 (Ne.symm ne53))
   have F56 := (F50.wr W52)
   have F57 := ((Fw37.keep K41 nin0).other W52 (Or.inr (slot_ne (Or.inr (ow hw 28)) (Or.inr (ow hw 26)) (by decide) (t := .byte) (t' := (.array .byte)) (by decide) (by decide))))
   have S55 : own_st Z h52 ra0 o42 cs3 cn0 := own_stU F56 Fw52 (S_ra1.2.2.2.2.1) F57 (own_castz hn14 F54) lc1
   have KEEP := ((((Keep.refl h0 [ra0]).wr W37 (Or.inl (List.mem_of_getElem? (i := 0) rfl))).trans K41 all0).wr W52 (Or.inl (List.mem_of_getElem? (i := 0) rfl)))
   exact own_leaveN X52 hlk (v := none) (fun _ => rfl) (lb rfl) (lb rfl) (by rw [e52]; exact ⟨o42, kc43, rfl, N52, KEEP, z48, S55⟩) (fun fs hr => X52.returnOut hx hret (hb hby d26_97) hr)
abbrev R25_76 : Room := { frames := 3, cells := 1, slots := 400, locals := 45 }
def Q25_76 (Z : State) (ra0 ra1 ra2 : Addr) (cs3 : List Int32) (cn0 cn1 : Int32) (cn2 G1 : Int32) (h0 : Heap) (n0 : Nat) (v : Option Value) (h : Heap) (L : List Loc) : Prop := (∃ (o2 : Addr), v = none ∧ Fr n0 L ∧ Keep h0 h [ra0] ∧ h0.size ≤ o2 ∧ own_st Z h ra0 o2 cs3 cn0)
theorem rm25_76 l Z a0 (hw : HW Z a0) ra0 ra1 ra2 (cs3 : List Int32) (cn0 : Int32) (cn1 : Int32) (cn2 : Int32) (G1 : Int32) h0 n0 (OLD : Old Z n0 h0) (A' : Exa Z h0 ra0 cN1) (B' : Fld Z h0 ra0 cN1 "coder" "B" (.int 0)) (C' : Fld Z h0 ra0 cN1 "value" "[B" .null) (S_ra1 : own_sb Z h0 ra1 ra2 cs3 cn0 cn1) (D' : Fld Z h0 ra1 cN0 "count" "I" (.int cn2)) (O2 : Sta Z Z.heap cN1 "COMPACT_STRINGS" "Z" (.int G1)) (P5 : ¬ (G1 = (0 : Int32))) (E' : n0 ≤ ra0) (ne_ra2_ra0 : ra2 ≠ ra0) (hn9 : cn2 = cn1) (hn10 : cn1.toNatClampNeg ≤ 400) (hn11 : cn1 = cn0) (hn12 : (cn2 <<< ((1 : Int32) &&& 31)) = (cn1 <<< ((1 : Int32) &&& 31))) (hn13 : (cn1 <<< ((1 : Int32) &&& 31)).toNatClampNeg ≤ 400) (hn14 : (cn1 <<< ((1 : Int32) &&& 31)) = (cn0 <<< ((1 : Int32) &&& 31))) :
  own_CN l Z y40 jdk_42_method_53_code 2 none [] R25_76 #[.ref ra0, .ref ra1] h0 (Q25_76 Z ra0 ra1 ra2 cs3 cn0 cn1 cn2 G1 h0 n0) := by
 refine own_entryN (plainFor_of_name pn_2) fun p e s m below meth c s₁ hx hby hml hown hnm hret hlk hZ hh X0 e0 => ?_
 have N0 := Fr.nil n0
 rw [ef_17_21 m ra0 ra1]
 refine og s₁ (mkF m 3 #[vR ra0, vR ra1] [.null, .ref ra1, .ref ra0]) (fun _ k => qa X0 hx hby d25_0 rfl rfl rfl (qa X0 hx hby d25_1 rfl rfl rfl (XS.aconstNull X0.here hx rfl (hb hby d25_2) k))) ?_
 obtain ⟨_, T1, L1, X1, hQ1, st1⟩ := own_sc X0 hx hZ rfl hown (ow hw 157) (ow hw 158) (rm26_77 l Z a0 hw ra0 ra1 ra2 cs3 cn0 cn1 cn2 G1 h0 n0 OLD A' B' C' S_ra1 D' O2 P5 E' ne_ra2_ra0 ⟨hn9, hn10, hn11, hn12, hn13, hn14⟩) (ow hw 159) (ow hw 5) e0 (g := (mkF m 3 #[vR ra0, vR ra1] [.null, .ref ra1, .ref ra0])) rfl (zs hml) (argsL := [.ref ra1, .null]) (rest := []) (lenOf pd_28 rfl) rfl (hb hby d25_3) (W := 0) rfl
 obtain ⟨o2, kc3, rfl, Nq1, K1, f4, f5⟩ := hQ1
 have N1 := Fr.app N0 Nq1
 have g6 : n0 ≤ o2 := Nat.le_trans (own_osz OLD) f4
 have z7 : h0.size ≤ o2 := Nat.le_trans (Nat.le_refl _) f4
 refine ot T1 (mkF m 6 #[vR ra0, vR ra1] []) st1 ?_
 have KEEP := ((Keep.refl h0 [ra0]).trans K1 (allS (Or.inl (List.mem_of_getElem? (i := 0) rfl)) all0))
 exact own_leaveN X1 hlk (v := none) (fun _ => rfl) (lb rfl) (lb rfl) (by exact ⟨o2, rfl, N1, KEEP, z7, f5⟩) (fun fs hr => X1.returnOut hx hret (hb hby d25_6) hr)
abbrev R24_75 : Room := { frames := 4, cells := 2, slots := 404, locals := 59 }
def Q24_75 (Z : State) (ra0 ra1 : Addr) (cs2 : List Int32) (cn0 cn1 : Int32) (cn2 G1 : Int32) (h0 : Heap) (n0 : Nat) (v : Option Value) (h : Heap) (L : List Loc) : Prop := (∃ (b1 o8 : Addr), v = some (.ref b1) ∧ Fr n0 L ∧ Keep h0 h [] ∧ h0.size ≤ b1 ∧ h0.size ≤ o8 ∧ own_st Z h b1 o8 cs2 cn0)
theorem rm24_75 l Z a0 (hw : HW Z a0) ra0 ra1 (cs2 : List Int32) (cn0 : Int32) (cn1 : Int32) (cn2 : Int32) (G1 : Int32) h0 n0 (OLD : Old Z n0 h0) (S_ra0 : own_sb Z h0 ra0 ra1 cs2 cn0 cn1) (A' : Fld Z h0 ra0 cN0 "count" "I" (.int cn2)) (O2 : Sta Z Z.heap cN1 "COMPACT_STRINGS" "Z" (.int G1)) (P5 : ¬ (G1 = (0 : Int32))) (hn4 : cn2 = cn1) (hn5 : cn1.toNatClampNeg ≤ 400) (hn6 : cn1 = cn0) (hn7 : (cn2 <<< ((1 : Int32) &&& 31)) = (cn1 <<< ((1 : Int32) &&& 31))) (hn8 : (cn1 <<< ((1 : Int32) &&& 31)).toNatClampNeg ≤ 400) (hn9 : (cn1 <<< ((1 : Int32) &&& 31)) = (cn0 <<< ((1 : Int32) &&& 31))) :
  own_CN l Z y41 jdk_67_method_42_code 1 (some (.object cN1)) [] R24_75 #[.ref ra0] h0 (Q24_75 Z ra0 ra1 cs2 cn0 cn1 cn2 G1 h0 n0) := by
 refine own_entryN (plainFor_of_name pn_6) fun p e s m below meth c s₁ hx hby hml hown hnm hret hlk hZ hh X0 e0 => ?_
 have N0 := Fr.nil n0
 rw [ef_7_11 m ra0]
 obtain ⟨T1, h1, X1, e1, E1, A1, D1, U1, st1⟩ := newO X0 hx hZ hown (ow hw 153) (ow hw 13) (ow hw 5) e0 (g := (mkF m 0 #[vR ra0] [])) rfl (hb hby d24_0) (lb rfl) (lb rfl)
 obtain ⟨b1, gb1⟩ : ∃ z, z = h0.size := ⟨_, rfl⟩
 rw [← gb1] at A1 D1 U1 st1
 have g2 : n0 ≤ b1 := Nat.le_trans (own_osz OLD) (Nat.le_of_eq gb1.symm)
 have z3 : h0.size ≤ b1 := Nat.le_trans (Nat.le_refl _) (Nat.le_of_eq gb1.symm)
 refine og T1 (mkF m 5 #[vR ra0] [.ref ra0, .ref b1, .ref b1]) (fun _ k => st1 _ (XS.dup X1.here hx rfl (hb hby d24_3) rfl rfl (qa X1 hx hby d24_4 rfl rfl rfl k))) ?_
 have F4 := (S_ra0.ext E1)
 have F5 := (A'.ext E1)
 have F6 := (OLD.ext E1)
 obtain ⟨_, T7, L7, X7, hQ7, st7⟩ := own_sc X1 hx hZ rfl hown (ow hw 154) (ow hw 155) (rm25_76 l Z a0 hw b1 ra0 ra1 cs2 cn0 cn1 cn2 G1 h1 n0 F6 A1 (D1 (Or.inr (ow hw 28)) (ty := .byte) (by decide)) (D1 (Or.inr (ow hw 26)) (ty := (.array .byte)) (by decide)) F4 F5 O2 P5 g2 (own_ne_lo S_ra0.ltb (Nat.le_of_eq gb1.symm)) hn4 hn5 hn6 hn7 hn8 hn9) (ow hw 156) (ow hw 5) e1 (g := (mkF m 5 #[vR ra0] [.ref ra0, .ref b1, .ref b1])) rfl (zs hml) (argsL := [.ref ra0]) (rest := [.ref b1]) (lenOf pd_29 rfl) rfl (hb hby d24_5) (W := 1) rfl
 obtain ⟨o8, rfl, Nq7, K7, f9, f10⟩ := hQ7
 have N7 := Fr.app N0 Nq7
 have g11 : n0 ≤ o8 := Nat.le_trans (own_osz F6) f9
 have F13 := (Nat.le_trans (Nat.le_refl _) E1.1)
 have z12 : h0.size ≤ o8 := Nat.le_trans F13 f9
 refine ot T7 (mkF m 8 #[vR ra0] [.ref b1]) st7 ?_
 have KEEP := (((Keep.refl h0 []).ext E1).trans K7 (allS (Or.inr z3) all0))
 exact own_leaveN X7 hlk (v := some (.ref b1)) (own_nr hret) (lb rfl) (lb rfl) (by exact ⟨b1, o8, rfl, N7, KEEP, z3, z12, f10⟩) (own_ra X7 hx hret rfl rfl rfl (hb hby d24_8))
abbrev R38_83 : Room := { frames := 3, cells := 1, slots := 2752, locals := 42 }
def Q38_83 (Z : State) (ra0 : Addr) (cn0 : Int32) (ra1 ra2 : Addr) (cs3 : List Int32) (cn1 : Int32) (us up : Value) (h0 : Heap) (n0 : Nat) (v : Option Value) (h : Heap) (L : List Loc) : Prop := (v = none ∧ Fr n0 L ∧ Keep h0 h [ra0] ∧ Unt h ra0 ∧ Fld Z h ra0 cN3 "cause" "Ljava/lang/Throwable;" .null ∧ Fld Z h ra0 cN3 "detailMessage" "Ljava/lang/String;" (.ref ra1) ∧ Fld Z h ra0 cN3 "suppressedExceptions" "Ljava/util/List;" up)
theorem rm38_83 l Z a0 (hw : HW Z a0) ra0 (cn0 : Int32) ra1 ra2 (cs3 : List Int32) (cn1 : Int32) (us : Value) (up : Value) h0 n0 (OLD : Old Z n0 h0) (U_ra0 : Unt h0 ra0) (A' : Exa Z h0 ra0 cN7) (B' : Fld Z h0 ra0 cN3 "backtrace" "Ljava/lang/Object;" .null) (C' : Fld Z h0 ra0 cN3 "cause" "Ljava/lang/Throwable;" .null) (D' : Fld Z h0 ra0 cN3 "depth" "I" (.int cn0)) (E' : Fld Z h0 ra0 cN3 "detailMessage" "Ljava/lang/String;" .null) (F' : Fld Z h0 ra0 cN3 "stackTrace" "[Ljava/lang/StackTraceElement;" .null) (G' : Fld Z h0 ra0 cN3 "suppressedExceptions" "Ljava/util/List;" .null) (S_ra1 : own_st Z h0 ra1 ra2 cs3 cn1) (H' : n0 ≤ ra0) (Sus : Sta Z Z.heap cN3 "UNASSIGNED_STACK" "[Ljava/lang/StackTraceElement;" us) (rf_us : us.isRef = true) (Sup : Sta Z Z.heap cN3 "SUPPRESSED_SENTINEL" "Ljava/util/List;" up) (rf_up : up.isRef = true) (hl : l.stackTraces = true) (rus : us.isRef = true) :
  own_CW l Z true y42 jdk_78_method_3_code 3 none [] R38_83 #[.ref ra0, .ref ra1, .null] h0 [] (Q38_83 Z ra0 cn0 ra1 ra2 cs3 cn1 us up h0 n0) := by
 refine own_entryW (plainFor_of_name pn_10) fun p e s m below meth c s₁ hx hby hml hown hnm hret hlk hZ hh hCH hSf hKn X0 e0 => ?_
 have N0 := Fr.nil n0
 have hS0 : s.Since s.vm h0.size := own_since s _
 have hk0 : h0.size ≤ h0.size := Nat.le_refl _
 have CH0 : CHr Z own_EL s.vm h0 s.vm h0 := CHr.refl hCH
 rw [ef_38_83 m ra0 ra1]
 refine og s₁ (mkF m 1 #[vR ra0, vR ra1, vN] [.ref ra0]) (fun _ k => qa X0 hx hby d38_0 rfl rfl rfl k) ?_
 obtain ⟨T1, X1, e1, st1⟩ := initO X0 hx hZ hown (ow hw 231) (ow hw 23) (ow hw 24) e0 (g := (mkF m 1 #[vR ra0, vR ra1, vN] [.ref ra0])) rfl (zs hml) rfl (hb hby d38_1) (by decide) (W := 0) (lb rfl) (by decide)
 refine og T1 (mkF m 6 #[vR ra0, vR ra1, vN] [.ref ra0, .ref ra0]) (fun _ k => st1 _ (qa X1 hx hby d38_4 rfl rfl rfl (qa X1 hx hby d38_5 rfl rfl rfl k))) ?_
 obtain ⟨T2, h2, X2, e2, W2, st2⟩ := putF X1 hx hZ hown (host := "") (Or.inl (ow hw 232)) Via.refl e1 C' A' (Or.inl (ow hw 233)) (ow hw 193) (ty := (.object cN3)) (by decide) rfl rfl (g := (mkF m 6 #[vR ra0, vR ra1, vN] [.ref ra0, .ref ra0])) rfl rfl (hb hby d38_6)
 have Fw2 := C'.same W2
 have ch3 := CHr.wr W2 (Safe.exa hZ.alike A' (by decide) (by decide)) CH0.1
 have CH4 := CHr.trans CH0 ch3
 have N2 := Fr.snoc X2 N0 H'
 refine og T2 (mkF m 10 #[vR ra0, vR ra1, vN] [.ref ra0]) (fun _ k => st2 _ (qa X2 hx hby d38_9 rfl rfl rfl k)) ?_
 have F5 := (OLD.wr W2 H')
 obtain ⟨T6, X6, e6, st6⟩ := getS2 X2 hx hZ hown (host := "") (Or.inl (ow hw 234)) Via.refl e2 (Sus.ext F5.2) (g := (mkF m 10 #[vR ra0, vR ra1, vN] [.ref ra0])) rfl (hb hby d38_10)
 refine og T6 (mkF m 13 #[vR ra0, vR ra1, vN] [us, .ref ra0]) st6 ?_
 have F7 := (A'.wr W2)
 have F8 := (F'.other W2 (Or.inr (slot_ne (Or.inl (ow hw 236)) (Or.inl (ow hw 233)) (by decide) (t := (.array (.object "java/lang/StackTraceElement"))) (t' := (.object cN3)) (by decide) (by decide))))
 obtain ⟨T9, h9, X9, e9, W9, st9⟩ := putF X6 hx hZ hown (host := "") (Or.inl (ow hw 235)) Via.refl e6 F8 F7 (Or.inl (ow hw 236)) (ow hw 193) (ty := (.array (.object "java/lang/StackTraceElement"))) (by decide) (own_nxa rf_us) (own_fxa rf_us) (g := (mkF m 13 #[vR ra0, vR ra1, vN] [us, .ref ra0])) rfl rfl (hb hby d38_13)
 have Fw9 := F8.same W9
 have ch10 := CHr.wr W9 (Safe.exa hZ.alike F7 (by decide) (by decide)) CH4.1
 have CH11 := CHr.trans CH4 ch10
 have N9 := Fr.snoc X9 N2 H'
 refine og T9 (mkF m 17 #[vR ra0, vR ra1, vN] [.ref ra0]) (fun _ k => st9 _ (qa X9 hx hby d38_16 rfl rfl rfl k)) ?_
 have F12 := (F5.wr W9 H')
 obtain ⟨T13, X13, e13, st13⟩ := getS2 X9 hx hZ hown (host := "") (Or.inl (ow hw 237)) Via.refl e9 (Sup.ext F12.2) (g := (mkF m 17 #[vR ra0, vR ra1, vN] [.ref ra0])) rfl (hb hby d38_17)
 refine og T13 (mkF m 20 #[vR ra0, vR ra1, vN] [up, .ref ra0]) st13 ?_
 have F14 := (F7.wr W9)
 have F15 := ((G'.other W2 (Or.inr (slot_ne (Or.inl (ow hw 239)) (Or.inl (ow hw 233)) (by decide) (t := (.object "java/util/List")) (t' := (.object cN3)) (by decide) (by decide)))).other W9 (Or.inr (slot_ne (Or.inl (ow hw 239)) (Or.inl (ow hw 236)) (by decide) (t := (.object "java/util/List")) (t' := (.array (.object "java/lang/StackTraceElement"))) (by decide) (by decide))))
 obtain ⟨T16, h16, X16, e16, W16, st16⟩ := putF X13 hx hZ hown (host := "") (Or.inl (ow hw 238)) Via.refl e13 F15 F14 (Or.inl (ow hw 239)) (ow hw 193) (ty := (.object "java/util/List")) (by decide) (own_nx rf_up) (own_fx rf_up) (g := (mkF m 20 #[vR ra0, vR ra1, vN] [up, .ref ra0])) rfl rfl (hb hby d38_20)
 have Fw16 := F15.same W16
 have ch17 := CHr.wr W16 (Safe.exa hZ.alike F14 (by decide) (by decide)) CH11.1
 have CH18 := CHr.trans CH11 ch17
 have N16 := Fr.snoc X16 N9 H'
 refine og T16 (mkF m 24 #[vR ra0, vR ra1, vN] [.ref ra0]) (fun _ k => st16 _ (qa X16 hx hby d38_23 rfl rfl rfl k)) ?_
 have F19 := (F14.wr W16)
 have F20 := (((U_ra0.wr W2).wr W9).wr W16)
 have F21 := (((B'.other W2 (Or.inr (slot_ne (Or.inl (ow hw 264)) (Or.inl (ow hw 233)) (by decide) (t := (.object "java/lang/Object")) (t' := (.object cN3)) (by decide) (by decide)))).other W9 (Or.inr (slot_ne (Or.inl (ow hw 264)) (Or.inl (ow hw 236)) (by decide) (t := (.object "java/lang/Object")) (t' := (.array (.object "java/lang/StackTraceElement"))) (by decide) (by decide)))).other W16 (Or.inr (slot_ne (Or.inl (ow hw 264)) (Or.inl (ow hw 239)) (by decide) (t := (.object "java/lang/Object")) (t' := (.object "java/util/List")) (by decide) (by decide))))
 have F22 := (Fw9.other W16 (Or.inr (slot_ne (Or.inl (ow hw 236)) (Or.inl (ow hw 239)) (by decide) (t := (.array (.object "java/lang/StackTraceElement"))) (t' := (.object "java/util/List")) (by decide) (by decide))))
 have F23 := ((Fw2.other W9 (Or.inr (slot_ne (Or.inl (ow hw 233)) (Or.inl (ow hw 236)) (by decide) (t := (.object cN3)) (t' := (.array (.object "java/lang/StackTraceElement"))) (by decide) (by decide)))).other W16 (Or.inr (slot_ne (Or.inl (ow hw 233)) (Or.inl (ow hw 239)) (by decide) (t := (.object cN3)) (t' := (.object "java/util/List")) (by decide) (by decide))))
 have F24 := (((E'.other W2 (Or.inr (slot_ne (Or.inl (ow hw 263)) (Or.inl (ow hw 233)) (by decide) (t := (.object cN1)) (t' := (.object cN3)) (by decide) (by decide)))).other W9 (Or.inr (slot_ne (Or.inl (ow hw 263)) (Or.inl (ow hw 236)) (by decide) (t := (.object cN1)) (t' := (.array (.object "java/lang/StackTraceElement"))) (by decide) (by decide)))).other W16 (Or.inr (slot_ne (Or.inl (ow hw 263)) (Or.inl (ow hw 239)) (by decide) (t := (.object cN1)) (t' := (.object "java/util/List")) (by decide) (by decide))))
 have F25 := (F12.wr W16 H')
 obtain ⟨T26, h26, L26, X26, e26, bL26, K26, Un26, kf26, st26⟩ := own_fill (W := 0) X16 hx hl hZ hown (own_xt hw) (ow hw 193) (by show ThS Z s.heap; rw [hh]; exact ThS.ext OLD.2 ThS.start) (Vm.MethodsKnown.alikeC hS0.1.alike (hKn rfl).1) (Vm.FramesKnown.alikeC hS0.1.alike (hKn rfl).2) e16 (by intro y hy; simp only [List.mem_append, List.mem_cons, List.not_mem_nil, or_false, false_or] at hy; (repeat' (rcases hy with hy | hy)) <;> first | rfl | (subst hy; rfl)) F19 F20 F21 rus F22 (Sus.ext F25.2) (g := (mkF m 24 #[vR ra0, vR ra1, vN] [.ref ra0])) rfl (zs hml) rfl (hb hby d38_24) (lb rfl) (lb rfl) (lb rfl) (lb rfl) (lb rfl)
 have N26 := Fr.app N16 (fun y hy => by rw [bL26 y hy]; exact H')
 have ch27 := CHr.keep K26 (allS (Safe.exa hZ.alike F19 (by decide) (by decide)) all0) CH18.1
 have CH28 := CHr.trans CH18 ch27
 refine og T26 (mkF m 30 #[vR ra0, vR ra1, vN] [.ref ra1, .ref ra0]) (fun _ k => st26 _ (XS.pop X26.here hx rfl (hb hby d38_27) rfl rfl (qa X26 hx hby d38_28 rfl rfl rfl (qa X26 hx hby d38_29 rfl rfl rfl k)))) ?_
 have F29 := (F19.keep K26)
 obtain ⟨T30, h30, X30, e30, W30, st30⟩ := putF X26 hx hZ hown (host := "") (Or.inl (ow hw 267)) Via.refl e26 (kf26 (slot_ne (Or.inl (ow hw 263)) (Or.inl (ow hw 264)) (by decide) (t := (.object cN1)) (t' := (.object "java/lang/Object")) (by decide) (by decide)) (slot_ne (Or.inl (ow hw 263)) (Or.inl (ow hw 265)) (by decide) (t := (.object cN1)) (t' := .int) (by decide) (by decide)) (slot_ne (Or.inl (ow hw 263)) (Or.inl (ow hw 236)) (by decide) (t := (.object cN1)) (t' := (.array (.object "java/lang/StackTraceElement"))) (by decide) (by decide)) F24) F29 (Or.inl (ow hw 263)) (ow hw 193) (ty := (.object cN1)) (by decide) rfl rfl (g := (mkF m 30 #[vR ra0, vR ra1, vN] [.ref ra1, .ref ra0])) rfl rfl (hb hby d38_30)
 have Fw30 := (kf26 (slot_ne (Or.inl (ow hw 263)) (Or.inl (ow hw 264)) (by decide) (t := (.object cN1)) (t' := (.object "java/lang/Object")) (by decide) (by decide)) (slot_ne (Or.inl (ow hw 263)) (Or.inl (ow hw 265)) (by decide) (t := (.object cN1)) (t' := .int) (by decide) (by decide)) (slot_ne (Or.inl (ow hw 263)) (Or.inl (ow hw 236)) (by decide) (t := (.object cN1)) (t' := (.array (.object "java/lang/StackTraceElement"))) (by decide) (by decide)) F24).same W30
 have ch31 := CHr.wr W30 (Safe.exa hZ.alike F29 (by decide) (by decide)) CH28.1
 have CH32 := CHr.trans CH28 ch31
 have N30 := Fr.snoc X30 N26 H'
 refine og T30 (mkF m 35 #[vR ra0, vR ra1, vN] [.null, .ref ra0]) (fun _ k => st30 _ (qa X30 hx hby d38_33 rfl rfl rfl (qa X30 hx hby d38_34 rfl rfl rfl k))) ?_
 have F33 := (F29.wr W30)
 have F34 := ((kf26 (slot_ne (Or.inl (ow hw 233)) (Or.inl (ow hw 264)) (by decide) (t := (.object cN3)) (t' := (.object "java/lang/Object")) (by decide) (by decide)) (slot_ne (Or.inl (ow hw 233)) (Or.inl (ow hw 265)) (by decide) (t := (.object cN3)) (t' := .int) (by decide) (by decide)) (slot_ne (Or.inl (ow hw 233)) (Or.inl (ow hw 236)) (by decide) (t := (.object cN3)) (t' := (.array (.object "java/lang/StackTraceElement"))) (by decide) (by decide)) F23).other W30 (Or.inr (slot_ne (Or.inl (ow hw 233)) (Or.inl (ow hw 263)) (by decide) (t := (.object cN3)) (t' := (.object cN1)) (by decide) (by decide))))
 obtain ⟨T35, h35, X35, e35, W35, st35⟩ := putF X30 hx hZ hown (host := "") (Or.inl (ow hw 232)) Via.refl e30 F34 F33 (Or.inl (ow hw 233)) (ow hw 193) (ty := (.object cN3)) (by decide) rfl rfl (g := (mkF m 35 #[vR ra0, vR ra1, vN] [.null, .ref ra0])) rfl rfl (hb hby d38_35)
 have Fw35 := F34.same W35
 have ch36 := CHr.wr W35 (Safe.exa hZ.alike F33 (by decide) (by decide)) CH32.1
 have CH37 := CHr.trans CH32 ch36
 have N35 := Fr.snoc X35 N30 H'
 refine og T35 (mkF m 38 #[vR ra0, vR ra1, vN] []) st35 ?_
 have F38 := ((Un26.wr W30).wr W35)
 have F39 := (Fw30.other W35 (Or.inr (slot_ne (Or.inl (ow hw 263)) (Or.inl (ow hw 233)) (by decide) (t := (.object cN1)) (t' := (.object cN3)) (by decide) (by decide))))
 have F40 := (((kf26 (slot_ne (Or.inl (ow hw 239)) (Or.inl (ow hw 264)) (by decide) (t := (.object "java/util/List")) (t' := (.object "java/lang/Object")) (by decide) (by decide)) (slot_ne (Or.inl (ow hw 239)) (Or.inl (ow hw 265)) (by decide) (t := (.object "java/util/List")) (t' := .int) (by decide) (by decide)) (slot_ne (Or.inl (ow hw 239)) (Or.inl (ow hw 236)) (by decide) (t := (.object "java/util/List")) (t' := (.array (.object "java/lang/StackTraceElement"))) (by decide) (by decide)) Fw16).other W30 (Or.inr (slot_ne (Or.inl (ow hw 239)) (Or.inl (ow hw 263)) (by decide) (t := (.object "java/util/List")) (t' := (.object cN1)) (by decide) (by decide)))).other W35 (Or.inr (slot_ne (Or.inl (ow hw 239)) (Or.inl (ow hw 233)) (by decide) (t := (.object "java/util/List")) (t' := (.object cN3)) (by decide) (by decide))))
 have K43 := (((((Keep.refl h0 [ra0]).wr W2 (Or.inl (List.mem_of_getElem? (i := 0) rfl))).wr W9 (Or.inl (List.mem_of_getElem? (i := 0) rfl))).wr W16 (Or.inl (List.mem_of_getElem? (i := 0) rfl))).trans K26 (allS (Or.inl (List.mem_of_getElem? (i := 0) rfl)) all0))
 have KEEP := ((K43.wr W30 (Or.inl (List.mem_of_getElem? (i := 0) rfl))).wr W35 (Or.inl (List.mem_of_getElem? (i := 0) rfl)))
 have F41 := (Nat.le_trans (Nat.le_trans (Nat.le_trans (Nat.le_trans hk0 (Nat.le_of_eq W2.size.symm)) (Nat.le_of_eq W9.size.symm)) (Nat.le_of_eq W16.size.symm)) K26.1)
 have F42 := (Nat.le_trans (Nat.le_trans F41 (Nat.le_of_eq W30.size.symm)) (Nat.le_of_eq W35.size.symm))
 exact own_leaveW (s := s) (vm0 := s.vm) X35 hS0 F42 hZ (own_EW hw) e35 CH37 hh hlk (v := none) (fun _ => rfl) (lb rfl) (lb rfl) (by rw [e35]; exact ⟨rfl, N35, KEEP, F38, Fw35, F39, F40⟩) (fun fs hr => X35.returnOut hx hret (hb hby d38_38) hr)
abbrev R37_84 : Room := { frames := 4, cells := 1, slots := 2752, locals := 56 }
def Q37_84 (Z : State) (ra0 : Addr) (cn0 : Int32) (ra1 ra2 : Addr) (cs3 : List Int32) (cn1 : Int32) (us up : Value) (h0 : Heap) (n0 : Nat) (v : Option Value) (h : Heap) (L : List Loc) : Prop := (v = none ∧ Fr n0 L ∧ Keep h0 h [ra0] ∧ Unt h ra0 ∧ Fld Z h ra0 cN3 "cause" "Ljava/lang/Throwable;" .null ∧ Fld Z h ra0 cN3 "detailMessage" "Ljava/lang/String;" (.ref ra1) ∧ Fld Z h ra0 cN3 "suppressedExceptions" "Ljava/util/List;" up)
theorem rm37_84 l Z a0 (hw : HW Z a0) ra0 (cn0 : Int32) ra1 ra2 (cs3 : List Int32) (cn1 : Int32) (us : Value) (up : Value) h0 n0 (OLD : Old Z n0 h0) (U_ra0 : Unt h0 ra0) (A' : Exa Z h0 ra0 cN7) (B' : Fld Z h0 ra0 cN3 "backtrace" "Ljava/lang/Object;" .null) (C' : Fld Z h0 ra0 cN3 "cause" "Ljava/lang/Throwable;" .null) (D' : Fld Z h0 ra0 cN3 "depth" "I" (.int cn0)) (E' : Fld Z h0 ra0 cN3 "detailMessage" "Ljava/lang/String;" .null) (F' : Fld Z h0 ra0 cN3 "stackTrace" "[Ljava/lang/StackTraceElement;" .null) (G' : Fld Z h0 ra0 cN3 "suppressedExceptions" "Ljava/util/List;" .null) (S_ra1 : own_st Z h0 ra1 ra2 cs3 cn1) (H' : n0 ≤ ra0) (Sus : Sta Z Z.heap cN3 "UNASSIGNED_STACK" "[Ljava/lang/StackTraceElement;" us) (rf_us : us.isRef = true) (Sup : Sta Z Z.heap cN3 "SUPPRESSED_SENTINEL" "Ljava/util/List;" up) (rf_up : up.isRef = true) (hl : l.stackTraces = true) (rus : us.isRef = true) :
  own_CW l Z true y43 jdk_59_method_3_code 3 none [] R37_84 #[.ref ra0, .ref ra1, .null] h0 [] (Q37_84 Z ra0 cn0 ra1 ra2 cs3 cn1 us up h0 n0) := by
 refine own_entryW (plainFor_of_name pn_11) fun p e s m below meth c s₁ hx hby hml hown hnm hret hlk hZ hh hCH hSf hKn X0 e0 => ?_
 have N0 := Fr.nil n0
 have hS0 : s.Since s.vm h0.size := own_since s _
 have hk0 : h0.size ≤ h0.size := Nat.le_refl _
 have CH0 : CHr Z own_EL s.vm h0 s.vm h0 := CHr.refl hCH
 rw [ef_38_83 m ra0 ra1]
 refine og s₁ (mkF m 3 #[vR ra0, vR ra1, vN] [.null, .ref ra1, .ref ra0]) (fun _ k => qa X0 hx hby d37_0 rfl rfl rfl (qa X0 hx hby d37_1 rfl rfl rfl (qa X0 hx hby d37_2 rfl rfl rfl k))) ?_
 obtain ⟨_, _, ⟨T1, L1, k1, n1⟩, -, X1, hs1, hg1, ⟨Lc1, hQ1, l1, y1, z1, ch1⟩, st1⟩ := X0.specialBackS hx (y := y42) rfl hown (mvT hZ (ow hw 225)) (mvT hZ (ow hw 226)) (mvT hZ (ow hw 230)) (by decide) (own_backSH (W := 0) (rm38_83 l Z a0 hw ra0 cn0 ra1 ra2 cs3 cn1 us up h0 n0 OLD U_ra0 A' B' C' D' E' F' G' S_ra1 H' Sus rf_us Sup rf_up hl rus) hZ (ow hw 230) (ow hw 229) (lb rfl) (lb rfl) (own_EW hw) CH0.1 all0 (fun _ => ⟨Vm.MethodsKnown.alikeC hS0.1.alike (hKn rfl).1, Vm.FramesKnown.alikeC hS0.1.alike (hKn rfl).2⟩)) (g := (mkF m 3 #[vR ra0, vR ra1, vN] [.null, .ref ra1, .ref ra0])) rfl (zs hml) (Steps.refl _) (a := ra0) (argsL := [.ref ra1, .null]) (rest := []) (lenOf pd_31 rfl) rfl (lb rfl) (hb hby d37_3) (fun _ _ => ⟨rfl, e0, (lb rfl), (lb rfl)⟩)
 dsimp only [Pt.U, Pt.locs, Pt.cells, Pt.slots] at X1 l1 y1 z1 st1 hQ1 hs1 hg1 ch1
 subst l1 y1 z1
 replace X1 := own_reb X1
 obtain ⟨hZ1, hS1, hown1⟩ := own_after hZ hS0 e0 hk0 hs1 hg1 hown
 obtain ⟨rfl, Nq1, K1, f2, f3, f4, f5⟩ := hQ1
 have N1 := Fr.app N0 Nq1
 have CH6 := CHr.trans CH0 ch1
 refine ot T1 (mkF m 6 #[vR ra0, vR ra1, vN] []) st1 ?_
 have KEEP := ((Keep.refl h0 [ra0]).trans K1 (allS (Or.inl (List.mem_of_getElem? (i := 0) rfl)) all0))
 exact own_leaveW (s := s) (vm0 := T1.vm) X1 hS1 (Nat.le_refl _) hZ1 (own_EW hw) rfl CH6 hh hlk (v := none) (fun _ => rfl) (lb rfl) (lb rfl) (by exact ⟨rfl, N1, KEEP, f2, f3, f4, f5⟩) (fun fs hr => X1.returnOut hx hret (hb hby d37_6) hr)
abbrev R36_85 : Room := { frames := 5, cells := 1, slots := 2752, locals := 70 }
def Q36_85 (Z : State) (ra0 : Addr) (cn0 : Int32) (ra1 ra2 : Addr) (cs3 : List Int32) (cn1 : Int32) (us up : Value) (h0 : Heap) (n0 : Nat) (v : Option Value) (h : Heap) (L : List Loc) : Prop := (v = none ∧ Fr n0 L ∧ Keep h0 h [ra0] ∧ Unt h ra0 ∧ Fld Z h ra0 cN3 "cause" "Ljava/lang/Throwable;" .null ∧ Fld Z h ra0 cN3 "detailMessage" "Ljava/lang/String;" (.ref ra1) ∧ Fld Z h ra0 cN3 "suppressedExceptions" "Ljava/util/List;" up)
theorem rm36_85 l Z a0 (hw : HW Z a0) ra0 (cn0 : Int32) ra1 ra2 (cs3 : List Int32) (cn1 : Int32) (us : Value) (up : Value) h0 n0 (OLD : Old Z n0 h0) (U_ra0 : Unt h0 ra0) (A' : Exa Z h0 ra0 cN7) (B' : Fld Z h0 ra0 cN3 "backtrace" "Ljava/lang/Object;" .null) (C' : Fld Z h0 ra0 cN3 "cause" "Ljava/lang/Throwable;" .null) (D' : Fld Z h0 ra0 cN3 "depth" "I" (.int cn0)) (E' : Fld Z h0 ra0 cN3 "detailMessage" "Ljava/lang/String;" .null) (F' : Fld Z h0 ra0 cN3 "stackTrace" "[Ljava/lang/StackTraceElement;" .null) (G' : Fld Z h0 ra0 cN3 "suppressedExceptions" "Ljava/util/List;" .null) (S_ra1 : own_st Z h0 ra1 ra2 cs3 cn1) (H' : n0 ≤ ra0) (Sus : Sta Z Z.heap cN3 "UNASSIGNED_STACK" "[Ljava/lang/StackTraceElement;" us) (rf_us : us.isRef = true) (Sup : Sta Z Z.heap cN3 "SUPPRESSED_SENTINEL" "Ljava/util/List;" up) (rf_up : up.isRef = true) (hl : l.stackTraces = true) (rus : us.isRef = true) :
  own_CW l Z true y44 jdk_58_method_3_code 3 none [] R36_85 #[.ref ra0, .ref ra1, .null] h0 [] (Q36_85 Z ra0 cn0 ra1 ra2 cs3 cn1 us up h0 n0) := by
 refine own_entryW (plainFor_of_name pn_12) fun p e s m below meth c s₁ hx hby hml hown hnm hret hlk hZ hh hCH hSf hKn X0 e0 => ?_
 have N0 := Fr.nil n0
 have hS0 : s.Since s.vm h0.size := own_since s _
 have hk0 : h0.size ≤ h0.size := Nat.le_refl _
 have CH0 : CHr Z own_EL s.vm h0 s.vm h0 := CHr.refl hCH
 rw [ef_38_83 m ra0 ra1]
 refine og s₁ (mkF m 3 #[vR ra0, vR ra1, vN] [.null, .ref ra1, .ref ra0]) (fun _ k => qa X0 hx hby d36_0 rfl rfl rfl (qa X0 hx hby d36_1 rfl rfl rfl (qa X0 hx hby d36_2 rfl rfl rfl k))) ?_
 obtain ⟨_, _, ⟨T1, L1, k1, n1⟩, -, X1, hs1, hg1, ⟨Lc1, hQ1, l1, y1, z1, ch1⟩, st1⟩ := X0.specialBackS hx (y := y43) rfl hown (mvT hZ (ow hw 219)) (mvT hZ (ow hw 220)) (mvT hZ (ow hw 224)) (by decide) (own_backSH (W := 0) (rm37_84 l Z a0 hw ra0 cn0 ra1 ra2 cs3 cn1 us up h0 n0 OLD U_ra0 A' B' C' D' E' F' G' S_ra1 H' Sus rf_us Sup rf_up hl rus) hZ (ow hw 224) (ow hw 223) (lb rfl) (lb rfl) (own_EW hw) CH0.1 all0 (fun _ => ⟨Vm.MethodsKnown.alikeC hS0.1.alike (hKn rfl).1, Vm.FramesKnown.alikeC hS0.1.alike (hKn rfl).2⟩)) (g := (mkF m 3 #[vR ra0, vR ra1, vN] [.null, .ref ra1, .ref ra0])) rfl (zs hml) (Steps.refl _) (a := ra0) (argsL := [.ref ra1, .null]) (rest := []) (lenOf pd_31 rfl) rfl (lb rfl) (hb hby d36_3) (fun _ _ => ⟨rfl, e0, (lb rfl), (lb rfl)⟩)
 dsimp only [Pt.U, Pt.locs, Pt.cells, Pt.slots] at X1 l1 y1 z1 st1 hQ1 hs1 hg1 ch1
 subst l1 y1 z1
 replace X1 := own_reb X1
 obtain ⟨hZ1, hS1, hown1⟩ := own_after hZ hS0 e0 hk0 hs1 hg1 hown
 obtain ⟨rfl, Nq1, K1, f2, f3, f4, f5⟩ := hQ1
 have N1 := Fr.app N0 Nq1
 have CH6 := CHr.trans CH0 ch1
 refine ot T1 (mkF m 6 #[vR ra0, vR ra1, vN] []) st1 ?_
 have KEEP := ((Keep.refl h0 [ra0]).trans K1 (allS (Or.inl (List.mem_of_getElem? (i := 0) rfl)) all0))
 exact own_leaveW (s := s) (vm0 := T1.vm) X1 hS1 (Nat.le_refl _) hZ1 (own_EW hw) rfl CH6 hh hlk (v := none) (fun _ => rfl) (lb rfl) (lb rfl) (by exact ⟨rfl, N1, KEEP, f2, f3, f4, f5⟩) (fun fs hr => X1.returnOut hx hret (hb hby d36_6) hr)
abbrev R52_88 : Room := { frames := 0, cells := 0, slots := 0, locals := 0 }
def Q52_88 (Z : State) (ci0 : Int32) (h0 : Heap) (n0 : Nat) (v : Option Value) (h : Heap) (L : List Loc) : Prop := (v = some (.int 1) ∧ Fr n0 L ∧ h = h0)
theorem rm52_88 l Z a0 (hw : HW Z a0) (ci0 : Int32) h0 n0 (OLD : Old Z n0 h0) (hk0 : ¬ (ci0 < (0 : Int32))) (hk1 : (-10 : Int32) < (-ci0)) (hk2 : (-100 : Int32) < (-ci0)) (hk3 : ¬ ((-ci0) < (-9 : Int32))) :
  own_CN l Z y45 jdk_33_method_13_code 4 (some .int) [] R52_88 #[.int ci0] h0 (Q52_88 Z ci0 h0 n0) := by
 refine own_entryN (plainFor_of_name pn_13) fun p e s m below meth c s₁ hx hby hml hown hnm hret hlk hZ hh X0 e0 => ?_
 have N0 := Fr.nil n0
 rw [ef_52_88 m ci0]
 refine og s₁ (mkF m 13 #[vI (-ci0), vI 0, vU, vU] [(.int (-10 : Int32))]) (fun _ k => qc X0 hx hby d52_0 rfl (XS.istoreN X0.here hx rfl (hb hby d52_1) rfl (l' := #[vI ci0, vI 1, vU, vU]) rfl (qi X0 hx hby d52_2 rfl rfl (XS.ifNo X0.here hx rfl (hb hby d52_3) rfl ((if0 _ _).trans (flt hk0).1) (qc X0 hx hby d52_6 rfl (XS.istoreN X0.here hx rfl (hb hby d52_7) rfl (l' := #[vI ci0, vI 0, vU, vU]) rfl (qi X0 hx hby d52_8 rfl rfl (XS.ineg X0.here hx rfl (hb hby d52_9) rfl (XS.istoreN X0.here hx rfl (hb hby d52_10) rfl (l' := #[vI (-ci0), vI 0, vU, vU]) rfl (qb X0 hx hby d52_11 rfl k)))))))))) ?_
 refine og s₁ (mkF m 28 #[vI (-ci0), vI 0, vI (-10 : Int32), vI 1] [.int 1]) (fun _ k => XS.istoreN X0.here hx rfl (hb hby d52_13) rfl (l' := #[vI (-ci0), vI 0, vI (-10 : Int32), vU]) rfl (qc X0 hx hby d52_14 rfl (XS.istoreN X0.here hx rfl (hb hby d52_15) rfl (l' := #[vI (-ci0), vI 0, vI (-10 : Int32), vI 1]) rfl (qi X0 hx hby d52_16 rfl rfl (qb X0 hx hby d52_17 rfl (qn X0 hx hby d52_19 rfl rfl (tlt (by decide : (1 : Int32) < (10 : Int32))).2.1 (qi X0 hx hby d52_22 rfl rfl (qi X0 hx hby d52_23 rfl rfl (qn X0 hx hby d52_24 rfl rfl (tlt hk1).2.2.2 (qi X0 hx hby d52_27 rfl rfl k)))))))))) ?_
 refine og s₁ (mkF m 30 #[vI (-ci0), vI 0, vI (-10 : Int32), vI 1] [.int 1]) (fun _ k => qi X0 hx hby d52_28 rfl rfl (qp X0 hx hby d52_29 rfl rfl k)) ?_
 exact own_leaveN X0 hlk (v := some (.int 1)) (own_nr hret) (lb rfl) (lb rfl) (by rw [e0]; exact ⟨rfl, N0, rfl⟩) (fun fs hr => retI X0 hx hret (hb hby d52_30) hr)
abbrev R53_89 : Room := { frames := 0, cells := 0, slots := 0, locals := 0 }
def Q53_89 (Z : State) (ci0 cn0 : Int32) (ra1 : Addr) (kc2 : ClassId) (cs3 : List Int32) (nl3 : Nat) (cn2 : Int32) (dg : Addr) (kdg : ClassId) (h0 : Heap) (n0 : Nat) (v : Option Value) (h : Heap) (L : List Loc) : Prop := (v = some (.int (cn0 + (-1 : Int32))) ∧ Fr n0 L ∧ Keep h0 h [ra1] ∧ Arv Z h ra1 kc2 .byte cn2 (own_by (cs3 ++ ([(48 + ci0)] : List Int32))) (.int 0))
theorem rm53_89 l Z a0 (hw : HW Z a0) (ci0 : Int32) (cn0 : Int32) ra1 kc2 (cs3 : List Int32) nl3 (cn2 : Int32) dg kdg h0 n0 (OLD : Old Z n0 h0) (A' : Exa Z h0 ra1 "[B") (B' : cs3.length = nl3) (C' : own_L cs3) (D' : Arv Z h0 ra1 kc2 .byte cn2 (own_by cs3) (.int 0)) (hk4 : ¬ (ci0 < (0 : Int32))) (hk5 : (-10 : Int32) < (-ci0)) (hk6 : (-100 : Int32) < (-ci0)) (hk7 : ¬ ((-ci0) < (-9 : Int32))) (SG0 : Sta Z Z.heap "java/lang/Integer" "DigitOnes" "[B" (.ref dg)) (VG0 : Arv Z Z.heap dg kdg .byte (100 : Int32) own_dig (.int 0)) (hn10 : (cn0 + (-1 : Int32)).toNatClampNeg = nl3) (hn11 : ¬ ((cn0 + (-1 : Int32)) < (0 : Int32))) (hn12 : (cn0 + (-1 : Int32)) < cn2) (E' : n0 ≤ ra1) :
  own_CN l Z y46 jdk_33_method_12_code 7 (some .int) [] R53_89 #[.int ci0, .int cn0, .ref ra1] h0 (Q53_89 Z ci0 cn0 ra1 kc2 cs3 nl3 cn2 dg kdg h0 n0) := by
 refine own_entryN (plainFor_of_name pn_13) fun p e s m below meth c s₁ hx hby hml hown hnm hret hlk hZ hh X0 e0 => ?_
 have N0 := Fr.nil n0
 rw [ef_53_89 m ci0 cn0 ra1]
 refine og s₁ (mkF m 21 #[vI ci0, vI cn0, vR ra1, vU, vU, vI cn0, vI 0] [(.int (-ci0))]) (fun _ k => qi X0 hx hby d53_0 rfl rfl (XS.istore X0.here hx rfl (hb hby d53_1) rfl (l' := #[vI ci0, vI cn0, vR ra1, vU, vU, vI cn0, vU]) rfl (qi X0 hx hby d53_3 rfl rfl (XS.ifYes X0.here hx rfl (pc0 := 4) (pc' := 11) rfl (hb hby d53_4) rfl ((if0 _ _).trans (flt hk4).2.1) (by decide) (by decide) (qc X0 hx hby d53_11 rfl (XS.istore X0.here hx rfl (hb hby d53_12) rfl (l' := #[vI ci0, vI cn0, vR ra1, vU, vU, vI cn0, vI 0]) rfl (XS.iload X0.here hx rfl (hb hby d53_14) rfl (XS.ifNo X0.here hx rfl (hb hby d53_16) rfl ((if0 _ _).trans (tq 0)) (qi X0 hx hby d53_19 rfl rfl (XS.ineg X0.here hx rfl (hb hby d53_20) rfl k)))))))))) ?_
 refine og s₁ (mkF m 78 #[vI (-ci0), vI cn0, vR ra1, vU, vU, vI (cn0 + (-1 : Int32)), vI 0] [(.int (cn0 + (-1 : Int32))), .ref ra1]) (fun _ k => XS.istoreN X0.here hx rfl (hb hby d53_21) rfl (l' := #[vI (-ci0), vI cn0, vR ra1, vU, vU, vI cn0, vI 0]) rfl (qi X0 hx hby d53_22 rfl rfl (qb X0 hx hby d53_23 rfl (XS.icmpYes X0.here hx rfl (pc0 := 25) (pc' := 72) rfl (hb hby d53_25) rfl (tlt hk6).2.2.1 (by decide) (by decide) (qa X0 hx hby d53_72 rfl rfl rfl (XS.iinc X0.here hx rfl (hb hby d53_73) rfl (l' := #[vI (-ci0), vI cn0, vR ra1, vU, vU, vI (cn0 + (-1 : Int32)), vI 0]) rfl (XS.iload X0.here hx rfl (hb hby d53_76) rfl k))))))) ?_
 obtain ⟨T1, X1, e1, st1⟩ := getS2 X0 hx hZ hown (host := "") (Or.inl (ow hw 324)) Via.refl e0 (SG0.ext OLD.2) (g := (mkF m 78 #[vI (-ci0), vI cn0, vR ra1, vU, vU, vI (cn0 + (-1 : Int32)), vI 0] [(.int (cn0 + (-1 : Int32))), .ref ra1])) rfl (hb hby d53_78)
 refine og T1 (mkF m 83 #[vI (-ci0), vI cn0, vR ra1, vU, vU, vI (cn0 + (-1 : Int32)), vI 0] [(.int (-(-ci0))), .ref dg, (.int (cn0 + (-1 : Int32))), .ref ra1]) (fun _ k => st1 _ (qi X1 hx hby d53_81 rfl rfl (XS.ineg X1.here hx rfl (hb hby d53_82) rfl k))) ?_
 obtain ⟨cl2, Ar2, qr2, Sr2, Nr2, Hr2, Gr2⟩ := id (VG0.ext OLD.2)
 have hi2 : ¬ ((-(-ci0)) < 0 ∨ cl2.slots.size ≤ ((-(-ci0))).toNatClampNeg) := inb_of Sr2 (own_dgi hk4 hk7)
 refine og T1 (mkF m 84 #[vI (-ci0), vI cn0, vR ra1, vU, vU, vI (cn0 + (-1 : Int32)), vI 0] [(.int ((48 : Int32) + ci0)), (.int (cn0 + (-1 : Int32))), .ref ra1]) (fun t k => X1.baloadBytes hx (j := (-(-ci0))) (v := (.int ((48 : Int32) + ci0))) (by rw [e1]; exact Ar2.1) (State.isArrayOf_alike hZ.alike Ar2.2.1) Ar2.2.2 hi2 (Has.at Hr2 hi2 (own_dgv hk4 hk7)) (g := (mkF m 83 #[vI (-ci0), vI cn0, vR ra1, vU, vU, vI (cn0 + (-1 : Int32)), vI 0] [(.int (-(-ci0))), .ref dg, (.int (cn0 + (-1 : Int32))), .ref ra1])) rfl rfl (hb hby d53_83) t k) ?_
 obtain ⟨T3, h3, X3, e3, W3, V3, st3⟩ := own_bst X1 hx hZ e1 D' B' (j := (cn0 + (-1 : Int32))) hn10 ⟨hn11, hn12⟩ (g := (mkF m 84 #[vI (-ci0), vI cn0, vR ra1, vU, vU, vI (cn0 + (-1 : Int32)), vI 0] [(.int ((48 : Int32) + ci0)), (.int (cn0 + (-1 : Int32))), .ref ra1])) rfl rfl (hb hby d53_84)
 have N3 := Fr.snoc X3 N0 E'
 refine og T3 (mkF m 120 #[vI (-ci0), vI cn0, vR ra1, vU, vU, vI (cn0 + (-1 : Int32)), vI 0] [(.int (cn0 + (-1 : Int32)))]) (fun _ k => st3 _ (qi X3 hx hby d53_85 rfl rfl (qb X3 hx hby d53_86 rfl (XS.icmpYes X3.here hx rfl (pc0 := 88) (pc' := 104) rfl (hb hby d53_88) rfl (flt hk7).2.1 (by decide) (by decide) (XS.iload X3.here hx rfl (hb hby d53_104) rfl (XS.ifYes X3.here hx rfl (pc0 := 106) (pc' := 118) rfl (hb hby d53_106) rfl ((if0 _ _).trans (teq (by decide : (0 : Int32) = (0 : Int32))).1) (by decide) (by decide) (XS.iload X3.here hx rfl (hb hby d53_118) rfl k))))))) ?_
 have KEEP := ((Keep.refl h0 [ra1]).wr W3 (Or.inl (List.mem_of_getElem? (i := 0) rfl)))
 exact own_leaveN X3 hlk (v := some (.int (cn0 + (-1 : Int32)))) (own_nr hret) (lb rfl) (lb rfl) (by rw [e3]; exact ⟨rfl, N3, KEEP, V3⟩) (fun fs hr => retI X3 hx hret (hb hby d53_120) hr)
abbrev R51_87 : Room := { frames := 1, cells := 0, slots := 0, locals := 18 }
def Q51_87 (Z : State) (sb ta : Addr) (cs : List Int32) (cn K : Int32) (n2 ln G1 : Int32) (dg : Addr) (kdg : ClassId) (h0 : Heap) (n0 : Nat) (v : Option Value) (h : Heap) (L : List Loc) : Prop := (v = some (.ref sb) ∧ Fr n0 L ∧ Keep h0 h [ta, sb] ∧ own_sb Z h sb ta (cs ++ ([(48 + ln)] : List Int32)) n2 K ∧ Fld Z h sb cN0 "count" "I" (.int (cn + (1 : Int32))))
abbrev C51_87 (cn : Int32) (K : Int32) (n2 : Int32) (ln : Int32) : Prop := (¬ (ln < (0 : Int32))) ∧ ((-10 : Int32) < (-ln)) ∧ ((-100 : Int32) < (-ln)) ∧ (¬ ((-ln) < (-9 : Int32))) ∧ (¬ ((0 : Int32) < ((cn + (1 : Int32)) - (K >>> ((0 : Int32) &&& 31))))) ∧ (¬ ((0 : Int32) < ((cn + (1 : Int32)) - ((K <<< ((1 : Int32) &&& 31)) >>> ((1 : Int32) &&& 31))))) ∧ (((cn + (1 : Int32)) + (-1 : Int32)).toNatClampNeg = cn.toNatClampNeg) ∧ (¬ (((cn + (1 : Int32)) + (-1 : Int32)) < (0 : Int32))) ∧ (((cn + (1 : Int32)) + (-1 : Int32)) < K) ∧ ((cn.toNatClampNeg + 1) = n2.toNatClampNeg)
theorem rm51_87 l Z a0 (hw : HW Z a0) sb ta (cs : List Int32) (cn : Int32) (K : Int32) (n2 : Int32) (ln : Int32) (G1 : Int32) dg kdg h0 n0 (OLD : Old Z n0 h0) (S_sb : own_sb Z h0 sb ta cs cn K) (A' : Fld Z h0 sb cN0 "count" "I" (.int cn)) (hp_cs : own_L cs) (O2 : Sta Z Z.heap cN1 "COMPACT_STRINGS" "Z" (.int G1)) (P5 : ¬ (G1 = (0 : Int32))) (SG0 : Sta Z Z.heap "java/lang/Integer" "DigitOnes" "[B" (.ref dg)) (VG0 : Arv Z Z.heap dg kdg .byte (100 : Int32) own_dig (.int 0)) (ge_ta : n0 ≤ ta) (ne_sb_ta : sb ≠ ta) (ge_sb : n0 ≤ sb) (hC : C51_87 cn K n2 ln) :
  own_CN l Z y47 jdk_68_method_32_code 4 (some (.object cN0)) [] R51_87 #[.ref sb, .int ln] h0 (Q51_87 Z sb ta cs cn K n2 ln G1 dg kdg h0 n0) := by
 refine own_entryN (plainFor_of_name pn_5) fun p e s m below meth c s₁ hx hby hml hown hnm hret hlk hZ hh X0 e0 => ?_
 obtain ⟨hk3, hk4, hk5, hk6, hn7, hn8, hn13, hn14, hn15, hn19⟩ := hC
 have N0 := Fr.nil n0
 rw [ef_51_87 m sb ln]
 refine og s₁ (mkF m 1 #[vR sb, vI ln, vU, vU] [.ref sb]) (fun _ k => qa X0 hx hby d51_0 rfl rfl rfl k) ?_
 obtain ⟨T1, X1, e1, st1⟩ := qf X0 hx hZ hown (ow hw 96) e0 A' (g := (mkF m 1 #[vR sb, vI ln, vU, vU] [.ref sb])) rfl rfl hby d51_1
 refine og T1 (mkF m 7 #[vR sb, vI ln, vI cn, vU] [.int ln, .int cn]) (fun _ k => st1 _ (XS.istoreN X1.here hx rfl (hb hby d51_4) rfl (l' := #[vR sb, vI ln, vI cn, vU]) rfl (qi X1 hx hby d51_5 rfl rfl (qi X1 hx hby d51_6 rfl rfl k)))) ?_
 obtain ⟨_, T2, L2, X2, hQ2, st2⟩ := own_tc X1 hx hZ hown (ow hw 316) (ow hw 317) (rm52_88 l Z a0 hw ln h0 n0 OLD hk3 hk4 hk5 hk6) (ow hw 319) (ow hw 318) e1 (g := (mkF m 7 #[vR sb, vI ln, vI cn, vU] [.int ln, .int cn])) rfl (zs hml) (argsL := [.int ln]) (rest := [.int cn]) (lenOf pd_13 rfl) rfl (hb hby d51_7) (W := 1) rfl
 obtain ⟨rfl, Nq2, eq2⟩ := hQ2
 have N2 := Fr.app N0 Nq2
 refine og T2 (mkF m 14 #[vR sb, vI ln, vI cn, vI (cn + (1 : Int32))] [(.int (cn + (1 : Int32))), .ref sb]) (fun _ k => st2.trans (qp X2 hx hby d51_10 rfl rfl (XS.istoreN X2.here hx rfl (hb hby d51_11) rfl (l' := #[vR sb, vI ln, vI cn, vI (cn + (1 : Int32))]) rfl (qa X2 hx hby d51_12 rfl rfl rfl (qi X2 hx hby d51_13 rfl rfl k))))) ?_
 obtain ⟨_, T3, L3, X3, hQ3, st3⟩ := own_pc X2 hx hZ hown (ow hw 98) (ow hw 101) (ow hw 99) (ow hw 100) S_sb.1 (rm15_19 l Z a0 hw sb ta cs cn K ((cn + (1 : Int32))) h0 n0 OLD S_sb ⟨hn7, hn8⟩) (ow hw 102) (ow hw 68) eq2 (g := (mkF m 14 #[vR sb, vI ln, vI cn, vI (cn + (1 : Int32))] [(.int (cn + (1 : Int32))), .ref sb])) rfl (zs hml) (argsL := [(.int (cn + (1 : Int32)))]) (rest := []) (lenOf pd_7 rfl) rfl (hb hby d51_14) (W := 0) rfl
 obtain ⟨rfl, Nq3, eq3⟩ := hQ3
 have N3 := Fr.app N2 Nq3
 refine ot T3 (mkF m 17 #[vR sb, vI ln, vI cn, vI (cn + (1 : Int32))] []) st3 ?_
 obtain ⟨kc4, Fc4, Vc4⟩ := S_sb.2.2.2.2.2.lat hp_cs
 refine og T3 (mkF m 18 #[vR sb, vI ln, vI cn, vI (cn + (1 : Int32))] [.ref sb]) (fun _ k => qa X3 hx hby d51_17 rfl rfl rfl k) ?_
 obtain ⟨_, T5, L5, X5, hQ5, st5⟩ := own_vc X3 hx hZ hown (ow hw 320) (ow hw 174) (ow hw 176) (ow hw 175) S_sb.1 (rm30_25 l Z a0 hw sb G1 ((0 : Int32)) h0 n0 OLD O2 P5 Fc4) (ow hw 177) (ow hw 68) eq3 (g := (mkF m 18 #[vR sb, vI ln, vI cn, vI (cn + (1 : Int32))] [.ref sb])) rfl (zs hml) (argsL := []) (rest := []) (lenOf pd_12 rfl) rfl (hb hby d51_18) (W := 0) rfl
 rcases hQ5 with hQ5 | hQ5
 ·
  obtain ⟨hc6, rfl, Nq5, eq5⟩ := hQ5
  have N5 := Fr.app N3 Nq5
  refine og T5 (mkF m 27 #[vR sb, vI ln, vI cn, vI (cn + (1 : Int32))] [.ref sb, (.int (cn + (1 : Int32))), .int ln]) (fun _ k => st5.trans (XS.ifNo X5.here hx rfl (hb hby d51_21) rfl ((if0 _ _).trans (feq (by decide : ¬ ((1 : Int32) = (0 : Int32)))).1) (qi X5 hx hby d51_24 rfl rfl (qi X5 hx hby d51_25 rfl rfl (qa X5 hx hby d51_26 rfl rfl rfl k))))) ?_
  obtain ⟨T7, X7, e7, st7⟩ := getF X5 hx hZ hown (host := "") (Or.inl (ow hw 72)) Via.refl eq5 S_sb.2.1 (g := (mkF m 27 #[vR sb, vI ln, vI cn, vI (cn + (1 : Int32))] [.ref sb, (.int (cn + (1 : Int32))), .int ln])) rfl rfl (hb hby d51_27)
  refine og T7 (mkF m 30 #[vR sb, vI ln, vI cn, vI (cn + (1 : Int32))] [.ref ta, (.int (cn + (1 : Int32))), .int ln]) st7 ?_
  obtain ⟨_, T8, L8, X8, hQ8, st8⟩ := own_tc X7 hx hZ hown (ow hw 321) (ow hw 322) (rm53_89 l Z a0 hw ln ((cn + (1 : Int32))) ta kc4 cs (cn.toNatClampNeg) K dg kdg h0 n0 OLD S_sb.2.2.2.1 (S_sb.2.2.2.2.1) hp_cs Vc4 hk3 hk4 hk5 hk6 SG0 VG0 hn13 hn14 hn15 ge_ta) (ow hw 323) (ow hw 318) e7 (g := (mkF m 30 #[vR sb, vI ln, vI cn, vI (cn + (1 : Int32))] [.ref ta, (.int (cn + (1 : Int32))), .int ln])) rfl (zs hml) (argsL := [.int ln, (.int (cn + (1 : Int32))), .ref ta]) (rest := []) (lenOf pd_32 rfl) rfl (hb hby d51_30) (W := 0) rfl
  obtain ⟨rfl, Nq8, K8, f9⟩ := hQ8
  have N8 := Fr.app N5 Nq8
  refine og T8 (mkF m 50 #[vR sb, vI ln, vI cn, vI (cn + (1 : Int32))] [(.int (cn + (1 : Int32))), .ref sb]) (fun _ k => st8.trans (XS.pop X8.here hx rfl (hb hby d51_33) rfl rfl (XS.goto X8.here hx rfl (pc0 := 34) (pc' := 48) rfl (hb hby d51_34) (by decide) (by decide) (qa X8 hx hby d51_48 rfl rfl rfl (qi X8 hx hby d51_49 rfl rfl k))))) ?_
  have F10 := (S_sb.1.keep K8)
  have F11 := (A'.keep K8 (ninS ne_sb_ta nin0))
  obtain ⟨T12, h12, X12, e12, W12, st12⟩ := putF X8 hx hZ hown (host := "") (Or.inl (ow hw 96)) Via.refl rfl F11 F10 (Or.inl (ow hw 97)) (ow hw 59) (ty := .int) (by decide) rfl rfl (g := (mkF m 50 #[vR sb, vI ln, vI cn, vI (cn + (1 : Int32))] [(.int (cn + (1 : Int32))), .ref sb])) rfl rfl (hb hby d51_50)
  have Fw12 := F11.same W12
  have N12 := Fr.snoc X12 N8 ge_sb
  refine og T12 (mkF m 54 #[vR sb, vI ln, vI cn, vI (cn + (1 : Int32))] [.ref sb]) (fun _ k => st12 _ (qa X12 hx hby d51_53 rfl rfl rfl k)) ?_
  have F13 := (f9.other W12 (Ne.symm ne_sb_ta))
  have hp14 : ∀ c ∈ ([(48 + ln)] : List Int32), ¬ c < 0 ∧ ¬ (255 : Int32) < c := by
   intro c hc
   simp only [List.mem_cons, List.not_mem_nil, or_false] at hc
   rcases hc with rfl
   ·
    exact (own_48 hk3 hk6)
  have F16 := (F10.wr W12)
  have F17 := ((S_sb.2.2.1.keep K8 (ninS ne_sb_ta nin0)).other W12 (Or.inr (slot_ne (Or.inl (ow hw 368)) (Or.inl (ow hw 97)) (by decide) (t := .boolean) (t' := .int) (by decide) (by decide))))
  have F18 := ((S_sb.2.2.2.1.keep K8).wr W12)
  have F19 := ((S_sb.2.1.keep K8 (ninS ne_sb_ta nin0)).other W12 (Or.inr (slot_ne (Or.inl (ow hw 73)) (Or.inl (ow hw 97)) (by decide) (t := (.array .byte)) (t' := .int) (by decide) (by decide))))
  have F20 := ((Fc4.keep K8 (ninS ne_sb_ta nin0)).other W12 (Or.inr (slot_ne (Or.inl (ow hw 75)) (Or.inl (ow hw 97)) (by decide) (t := .byte) (t' := .int) (by decide) (by decide))))
  have S15 : own_sb Z h12 sb ta (cs ++ ([(48 + ln)] : List Int32)) n2 K := own_sbL F16 F19 F17 F18 (Eq.trans (own_la (S_sb.2.2.2.2.1) rfl) hn19) F20 F13 (own_happ hp_cs hp14)
  have KEEP := (((Keep.refl h0 [ta, sb]).trans K8 (allS (Or.inl (List.mem_of_getElem? (i := 0) rfl)) all0)).wr W12 (Or.inl (List.mem_of_getElem? (i := 1) rfl)))
  exact own_leaveN X12 hlk (v := some (.ref sb)) (own_nr hret) (lb rfl) (lb rfl) (by rw [e12]; exact ⟨rfl, N12, KEEP, S15, Fw12⟩) (own_ra X12 hx hret rfl rfl rfl (hb hby d51_54))
 ·
  exfalso
  obtain ⟨hd0, -⟩ := hQ5
  exact absurd hd0 (fun q => q (by decide : (0 : Int32) = (0 : Int32)))
abbrev R50_86 : Room := { frames := 2, cells := 0, slots := 0, locals := 33 }
def Q50_86 (Z : State) (sb ta : Addr) (cs : List Int32) (cn K : Int32) (n2 ln G1 : Int32) (dg : Addr) (kdg : ClassId) (h0 : Heap) (n0 : Nat) (v : Option Value) (h : Heap) (L : List Loc) : Prop := (v = some (.ref sb) ∧ Fr n0 L ∧ Keep h0 h [ta, sb] ∧ own_sb Z h sb ta (cs ++ ([(48 + ln)] : List Int32)) n2 K ∧ Fld Z h sb cN0 "count" "I" (.int (cn + (1 : Int32))))
abbrev C50_86 (cn : Int32) (K : Int32) (n2 : Int32) (ln : Int32) : Prop := (¬ (ln < (0 : Int32))) ∧ ((-10 : Int32) < (-ln)) ∧ ((-100 : Int32) < (-ln)) ∧ (¬ ((-ln) < (-9 : Int32))) ∧ (¬ ((0 : Int32) < ((cn + (1 : Int32)) - (K >>> ((0 : Int32) &&& 31))))) ∧ (¬ ((0 : Int32) < ((cn + (1 : Int32)) - ((K <<< ((1 : Int32) &&& 31)) >>> ((1 : Int32) &&& 31))))) ∧ (((cn + (1 : Int32)) + (-1 : Int32)).toNatClampNeg = cn.toNatClampNeg) ∧ (¬ (((cn + (1 : Int32)) + (-1 : Int32)) < (0 : Int32))) ∧ (((cn + (1 : Int32)) + (-1 : Int32)) < K) ∧ ((cn.toNatClampNeg + 1) = n2.toNatClampNeg)
theorem rm50_86 l Z a0 (hw : HW Z a0) sb ta (cs : List Int32) (cn : Int32) (K : Int32) (n2 : Int32) (ln : Int32) (G1 : Int32) dg kdg h0 n0 (OLD : Old Z n0 h0) (S_sb : own_sb Z h0 sb ta cs cn K) (A' : Fld Z h0 sb cN0 "count" "I" (.int cn)) (hp_cs : own_L cs) (O2 : Sta Z Z.heap cN1 "COMPACT_STRINGS" "Z" (.int G1)) (P5 : ¬ (G1 = (0 : Int32))) (SG0 : Sta Z Z.heap "java/lang/Integer" "DigitOnes" "[B" (.ref dg)) (VG0 : Arv Z Z.heap dg kdg .byte (100 : Int32) own_dig (.int 0)) (ge_ta : n0 ≤ ta) (ne_sb_ta : sb ≠ ta) (ge_sb : n0 ≤ sb) (hC : C50_86 cn K n2 ln) :
  own_CN l Z y48 jdk_67_method_15_code 2 (some (.object cN6)) [] R50_86 #[.ref sb, .int ln] h0 (Q50_86 Z sb ta cs cn K n2 ln G1 dg kdg h0 n0) := by
 refine own_entryN (plainFor_of_name pn_6) fun p e s m below meth c s₁ hx hby hml hown hnm hret hlk hZ hh X0 e0 => ?_
 obtain ⟨hk3, hk4, hk5, hk6, hn14, hn15, hn16, hn17, hn18, hn19⟩ := hC
 have N0 := Fr.nil n0
 rw [ef_10_14 m sb ln]
 refine og s₁ (mkF m 2 #[vR sb, vI ln] [.int ln, .ref sb]) (fun _ k => qa X0 hx hby d50_0 rfl rfl rfl (qi X0 hx hby d50_1 rfl rfl k)) ?_
 obtain ⟨_, _, ⟨T2, L2, k2, n2⟩, -, X2, ⟨Lc2, hQ2, l2, y2, z2⟩, st2⟩ := superBack X0 hx hZ (y := y47) hown (ow hw 312) (own_same (z := y12) (ow hw 101) (ow hw 313) rfl (by decide)) (ow hw 313) (ow hw 83) (by decide) (backOf (W := 0) (rm51_87 l Z a0 hw sb ta cs cn K n2 ln G1 dg kdg h0 n0 OLD S_sb A' hp_cs O2 P5 SG0 VG0 ge_ta ne_sb_ta ge_sb ⟨hk3, hk4, hk5, hk6, hn14, hn15, hn16, hn17, hn18, hn19⟩) hZ (ow hw 315) (ow hw 68) (lb rfl) (lb rfl)) e0 (Ins.self S_sb.1) (g := (mkF m 2 #[vR sb, vI ln] [.int ln, .ref sb])) rfl (zs hml) (ow hw 315) (argsL := [.int ln]) (rest := []) (lenOf pd_33 rfl) rfl (lb rfl) (hb hby d50_2) (fun _ _ => ⟨rfl, e0, (lb rfl), (lb rfl)⟩)
 dsimp only [Pt.U, Pt.locs, Pt.cells, Pt.slots] at X2 l2 y2 z2 st2 hQ2
 subst l2 y2 z2
 obtain ⟨rfl, Nq2, K2, f3, f4⟩ := hQ2
 have N2 := Fr.app N0 Nq2
 refine og T2 (mkF m 7 #[vR sb, vI ln] [.ref sb]) (fun _ k => st2.trans (XS.pop X2.here hx rfl (hb hby d50_5) rfl rfl (qa X2 hx hby d50_6 rfl rfl rfl k))) ?_
 have KEEP := ((Keep.refl h0 [ta, sb]).trans K2 (allS (Or.inl (List.mem_of_getElem? (i := 0) rfl)) (allS (Or.inl (List.mem_of_getElem? (i := 1) rfl)) all0)))
 exact own_leaveN X2 hlk (v := some (.ref sb)) (own_nr hret) (lb rfl) (lb rfl) (by exact ⟨rfl, N2, KEEP, f3, f4⟩) (own_ra X2 hx hret rfl rfl rfl (hb hby d50_7))
abbrev R35_67 : Room := { frames := 10, cells := 23, slots := 7664, locals := 145 }
def Q35_67 (Z : State) (ra0 ra1 ra2 : Addr) (cs3 : List Int32) (ci4 : Int32) (ra5 ra6 : Addr) (cs7 : List Int32) (G1 : Int32) (G3 us up : Value) (dg : Addr) (kdg : ClassId) (h0 : Heap) (n0 : Nat) (v : Option Value) (h : Heap) (L : List Loc) : Prop := (∃ (eq0 eq1 : Addr), v = none ∧ Fr n0 L ∧ Keep h0 h [ra0] ∧ h0.size ≤ eq0 ∧ h0.size ≤ eq1 ∧ Unt h ra0 ∧ Fld Z h ra0 cN3 "cause" "Ljava/lang/Throwable;" .null ∧ Fld Z h ra0 cN3 "detailMessage" "Ljava/lang/String;" (.ref eq0) ∧ Fld Z h ra0 cN3 "suppressedExceptions" "Ljava/util/List;" up ∧ own_st Z h eq0 eq1 (((((([] : List Int32) ++ cL0) ++ cs3) ++ (own_lm ci4)) ++ ([58, 32] : List Int32)) ++ cs7) (own_ml ci4))
theorem rm35_67 l Z a0 (hw : HW Z a0) ra0 ra1 ra2 (cs3 : List Int32) (ci4 : Int32) ra5 ra6 (cs7 : List Int32) (G1 : Int32) (G3 : Value) (us : Value) (up : Value) dg kdg h0 n0 (OLD : Old Z n0 h0) (U_ra0 : Unt h0 ra0) (A' : Exa Z h0 ra0 cN7) (B' : Fld Z h0 ra0 cN3 "backtrace" "Ljava/lang/Object;" .null) (C' : Fld Z h0 ra0 cN3 "cause" "Ljava/lang/Throwable;" .null) (D' : Fld Z h0 ra0 cN3 "depth" "I" (.int 0)) (E' : Fld Z h0 ra0 cN3 "detailMessage" "Ljava/lang/String;" .null) (F' : Fld Z h0 ra0 cN3 "stackTrace" "[Ljava/lang/StackTraceElement;" .null) (G' : Fld Z h0 ra0 cN3 "suppressedExceptions" "Ljava/util/List;" .null) (S_ra1 : own_st Z h0 ra1 ra2 cs3 (1 : Int32)) (S_ra5 : own_st Z h0 ra5 ra6 cs7 (33 : Int32)) (hk10 : ¬ ((9 : Int32) < ci4)) (O2 : Sta Z Z.heap cN1 "COMPACT_STRINGS" "Z" (.int G1)) (P5 : ¬ (G1 = (0 : Int32))) (O4 : Sta Z Z.heap cN5 "SIOOBE_FORMATTER" "Ljava/util/function/BiFunction;" G3) (rG3 : G3.isRef = true) (Sas : Sta Z Z.heap cN2 "$assertionsDisabled" "Z" (.int 1)) (SHI : Sta Z Z.heap cN2 "HI_BYTE_SHIFT" "I" (.int 0)) (SLO : Sta Z Z.heap cN2 "LO_BYTE_SHIFT" "I" (.int 8)) (H' : n0 ≤ ra0) (Sus : Sta Z Z.heap cN3 "UNASSIGNED_STACK" "[Ljava/lang/StackTraceElement;" us) (rf_us : us.isRef = true) (Sup : Sta Z Z.heap cN3 "SUPPRESSED_SENTINEL" "Ljava/util/List;" up) (rf_up : up.isRef = true) (hl : l.stackTraces = true) (rus : us.isRef = true) (SG0 : Sta Z Z.heap "java/lang/Integer" "DigitOnes" "[B" (.ref dg)) (VG0 : Arv Z Z.heap dg kdg .byte (100 : Int32) own_dig (.int 0)) :
  own_CW l Z true y49 prog_27_method_1_code 5 none [] R35_67 #[.ref ra0, .ref ra1, .int ci4, .ref ra5, .null] h0 [] (Q35_67 Z ra0 ra1 ra2 cs3 ci4 ra5 ra6 cs7 G1 G3 us up dg kdg h0 n0) := by
 refine own_entryW (plainFor_of_name pn_14) fun p e s m below meth c s₁ hx hby hml hown hnm hret hlk hZ hh hCH hSf hKn X0 e0 => ?_
 have N0 := Fr.nil n0
 have hS0 : s.Since s.vm h0.size := own_since s _
 have hk0 : h0.size ≤ h0.size := Nat.le_refl _
 have CH0 : CHr Z own_EL s.vm h0 s.vm h0 := CHr.refl hCH
 rw [ef_35_67 m ra0 ra1 ci4 ra5]
 refine og s₁ (mkF m 1 #[vR ra0, vR ra1, vI ci4, vR ra5, vN] [.ref ra0]) (fun _ k => qa X0 hx hby d35_0 rfl rfl rfl k) ?_
 obtain ⟨T1, h1, X1, e1, E1, A1, D1, U1, st1⟩ := newO X0 hx hZ hown (ow hw 198) (ow hw 59) (ow hw 60) e0 (g := (mkF m 1 #[vR ra0, vR ra1, vI ci4, vR ra5, vN] [.ref ra0])) rfl (hb hby d35_1) (lb rfl) (lb rfl)
 obtain ⟨b1, gb1⟩ : ∃ z, z = h0.size := ⟨_, rfl⟩
 rw [← gb1] at A1 D1 U1 st1
 have g2 : n0 ≤ b1 := Nat.le_trans (own_osz OLD) (Nat.le_of_eq gb1.symm)
 have z3 : h0.size ≤ b1 := Nat.le_trans (Nat.le_refl _) (Nat.le_of_eq gb1.symm)
 have ch4 := CHr.ext E1 CH0.1
 have CH5 := CHr.trans CH0 ch4
 refine og T1 (mkF m 5 #[vR ra0, vR ra1, vI ci4, vR ra5, vN] [.ref b1, .ref b1, .ref ra0]) (fun _ k => st1 _ (XS.dup X1.here hx rfl (hb hby d35_4) rfl rfl k)) ?_
 have F6 := (OLD.ext E1)
 obtain ⟨_, T7, L7, X7, hQ7, st7⟩ := own_sc X1 hx hZ rfl hown (ow hw 199) (ow hw 62) (rm9_13 l Z a0 hw b1 ((0 : Int32)) G1 h1 n0 F6 A1 (D1 (Or.inl (ow hw 75)) (ty := .byte) (by decide)) (D1 (Or.inl (ow hw 97)) (ty := .int) (by decide)) (D1 (Or.inl (ow hw 368)) (ty := .boolean) (by decide)) (D1 (Or.inl (ow hw 73)) (ty := (.array .byte)) (by decide)) O2 P5 g2) (ow hw 63) (ow hw 60) e1 (g := (mkF m 5 #[vR ra0, vR ra1, vI ci4, vR ra5, vN] [.ref b1, .ref b1, .ref ra0])) rfl (zs hml) (argsL := []) (rest := [.ref b1, .ref ra0]) (lenOf pd_5 rfl) rfl (hb hby d35_5) (W := 2) rfl
 obtain ⟨o8, kc9, rfl, Nq7, K7, f10, f11, f12⟩ := hQ7
 have N7 := Fr.app N0 Nq7
 have g13 : n0 ≤ o8 := Nat.le_trans (own_osz F6) f10
 have F15 := (Nat.le_trans (Nat.le_refl _) E1.1)
 have z14 : h0.size ≤ o8 := Nat.le_trans F15 f10
 have ch16 := CHr.keep K7 (allS (Safe.exa hZ.alike A1 (by decide) (by decide)) all0) CH5.1
 have CH17 := CHr.trans CH5 ch16
 have sf18 := Safe.keep K7 (allS (Safe.exa hZ.alike A1 (by decide) (by decide)) all0) CH5.1 (Safe.new f10)
 refine ot T7 (mkF m 8 #[vR ra0, vR ra1, vI ci4, vR ra5, vN] [.ref b1, .ref ra0]) st7 ?_
 have F20 := (Nat.le_trans (Nat.le_trans hk0 E1.1) K7.1)
 have F21 := (Nat.le_trans F15 K7.1)
 obtain ⟨l19, T19, h19, k19, lb19, lk19, X19, e19, E19, hS19, hk19, hZ19, hown19, Ex19, Fc19, Fv19, Av19, la19, lz19, ch19, Lt19, sf19, st19⟩ := ldcCH X7 hx hZ hown (ow hw 200) (own_wS hw) rfl hS0 F20 (own_EW hw) (by decide) CH17.1 (vs := [.int 99, .int 97, .int 110, .int 110, .int 111, .int 116, .int 32, .int 114, .int 101, .int 97, .int 100, .int 32]) (z := (12 : Int32)) (by decide) (by decide) (by decide) (g := (mkF m 8 #[vR ra0, vR ra1, vI ci4, vR ra5, vN] [.ref b1, .ref ra0])) rfl (hb hby d35_8) (n := 48) (by decide) (by decide) (lb rfl) (lb rfl)
 have CH22 := CHr.trans CH17 ch19
 have Ay19 : Arv Z h19 lb19 lk19 .byte (12 : Int32) (own_by cL0) (.int 0) := Av19
 refine og T19 (mkF m 10 #[vR ra0, vR ra1, vI ci4, vR ra5, vN] [.ref l19, .ref b1, .ref ra0]) st19 ?_
 have hp23 : own_L cL0 := own_hpl _ rfl
 have S24 : own_st Z h19 l19 lb19 cL0 (12 : Int32) := own_stL Ex19 Fv19 (by decide) Fc19 Ay19 hp23
 have F25 := (f11.ext E19)
 have F26 := (f12.ext E19)
 have F27 := ((F6.keep K7 (allS g2 all0)).ext E19)
 have F29 := ((A1.keep K7).ext E19)
 obtain ⟨_, T28, L28, X28, hQ28, st28⟩ := own_vc X19 hx hZ19 hown19 (ow hw 201) (ow hw 77) (ow hw 79) (ow hw 78) F29 (rm11_15 l Z a0 hw b1 o8 (([] : List Int32)) ((0 : Int32)) ((16 : Int32)) l19 lb19 cL0 ((12 : Int32)) ((12 : Int32)) G1 G3 h19 n0 F27 F25 F26 S24 O2 P5 g13 (own_ne_lo A1.lt f10) O4 rG3 Sas SHI SLO g2 (ne_exa Ex19 ((A1.keep K7).ext E19) (by decide)) (Ne.symm (own_ne_arv ((A1.keep K7).ext E19) (ow hw 59) Ay19)) (Ne.symm (sf19 o8 (CHr.safe ch19 f11.ltb sf18)).2) (by (repeat' apply And.intro) <;> decide)) (ow hw 80) (ow hw 60) e19 (g := (mkF m 10 #[vR ra0, vR ra1, vI ci4, vR ra5, vN] [.ref l19, .ref b1, .ref ra0])) rfl (zs hml) (argsL := [.ref l19]) (rest := [.ref ra0]) (lenOf pd_22 rfl) rfl (hb hby d35_10) (W := 1) rfl
 obtain ⟨o30, rfl, Nq28, K28, f31, f32, f33⟩ := hQ28
 have N28 := Fr.app N7 Nq28
 have g34 : n0 ≤ o30 := own_altge f31 g13 (own_osz F27)
 have F36 := (Nat.le_trans F21 E19.1)
 have z35 : h0.size ≤ o30 := own_altge f31 z14 F36
 have ch37 := CHr.keep K28 (allS (Safe.exa hZ19.alike F29 (by decide) (by decide)) (allS (CHr.safe ch19 f11.ltb sf18) all0)) CH22.1
 have CH38 := CHr.trans CH22 ch37
 have F40 := (CHr.safe ch37 (Nat.lt_of_lt_of_le f11.ltb E19.1) (CHr.safe ch19 f11.ltb sf18))
 have sf39 := own_alt (P := fun z => Safe Z own_EL _ _ z) f31 F40 (fun q => Safe.keep K28 (allS (Safe.exa hZ19.alike F29 (by decide) (by decide)) (allS (CHr.safe ch19 f11.ltb sf18) all0)) CH22.1 (Safe.new q))
 refine og T28 (mkF m 14 #[vR ra0, vR ra1, vI ci4, vR ra5, vN] [.ref ra1, .ref b1, .ref ra0]) (fun _ k => st28.trans (qa X28 hx hby d35_13 rfl rfl rfl k)) ?_
 have F41 := ((((S_ra1.ext E1).keep K7 (ninS (own_ne_lo S_ra1.lt (Nat.le_of_eq gb1.symm)) nin0) (ninS (own_ne_lo S_ra1.ltb (Nat.le_of_eq gb1.symm)) nin0)).ext E19).keep K28 (ninS (own_ne_lo S_ra1.lt (Nat.le_of_eq gb1.symm)) (ninS (own_ne_lo (Nat.lt_of_lt_of_le S_ra1.lt E1.1) f10) nin0)) (ninS (own_ne_lo S_ra1.ltb (Nat.le_of_eq gb1.symm)) (ninS (own_ne_lo (Nat.lt_of_lt_of_le S_ra1.ltb E1.1) f10) nin0)))
 have ne42 : b1 ≠ o30 := (own_altne f31 (own_ne_lo A1.lt f10) (Nat.lt_of_lt_of_le (Nat.lt_of_lt_of_le A1.lt K7.1) E19.1))
 have ne43 : ra2 ≠ o30 := (own_altne f31 (own_ne_lo (Nat.lt_of_lt_of_le S_ra1.ltb E1.1) f10) (Nat.lt_of_lt_of_le (Nat.lt_of_lt_of_le (Nat.lt_of_lt_of_le S_ra1.ltb E1.1) K7.1) E19.1))
 have F44 := (F27.keep K28 (allS g2 (allS g13 all0)))
 have F46 := (F29.keep K28)
 obtain ⟨_, T45, L45, X45, hQ45, st45⟩ := own_vc X28 hx hZ19 hown19 (ow hw 201) (ow hw 77) (ow hw 79) (ow hw 78) F46 (rm11_15 l Z a0 hw b1 o30 ((([] : List Int32) ++ cL0)) ((12 : Int32)) ((16 : Int32)) ra1 ra2 cs3 ((1 : Int32)) ((13 : Int32)) G1 G3 T28.heap n0 F44 f32 f33 F41 O2 P5 g34 ne42 O4 rG3 Sas SHI SLO g2 (own_ne_lo S_ra1.lt (Nat.le_of_eq gb1.symm)) (own_ne_lo S_ra1.ltb (Nat.le_of_eq gb1.symm)) ne43 (by (repeat' apply And.intro) <;> decide)) (ow hw 80) (ow hw 60) rfl (g := (mkF m 14 #[vR ra0, vR ra1, vI ci4, vR ra5, vN] [.ref ra1, .ref b1, .ref ra0])) rfl (zs hml) (argsL := [.ref ra1]) (rest := [.ref ra0]) (lenOf pd_22 rfl) rfl (hb hby d35_14) (W := 1) rfl
 obtain ⟨o47, rfl, Nq45, K45, f48, f49, f50⟩ := hQ45
 have N45 := Fr.app N28 Nq45
 have g51 : n0 ≤ o47 := own_altge f48 g34 (own_osz F44)
 have F53 := (Nat.le_trans F36 K28.1)
 have z52 : h0.size ≤ o47 := own_altge f48 z35 F53
 have ch54 := CHr.keep K45 (allS (Safe.exa hZ19.alike F46 (by decide) (by decide)) (allS sf39 all0)) CH38.1
 have CH55 := CHr.trans CH38 ch54
 have F57 := (CHr.safe ch54 f32.ltb sf39)
 have sf56 := own_alt (P := fun z => Safe Z own_EL _ _ z) f48 F57 (fun q => Safe.keep K45 (allS (Safe.exa hZ19.alike F46 (by decide) (by decide)) (allS sf39 all0)) CH38.1 (Safe.new q))
 refine og T45 (mkF m 19 #[vR ra0, vR ra1, vI ci4, vR ra5, vN] [.int 1, .int ci4, .ref b1, .ref ra0]) (fun _ k => st45.trans (qi X45 hx hby d35_17 rfl rfl (qc X45 hx hby d35_18 rfl k))) ?_
 by_cases hc58 : ci4 < (1 : Int32)
 ·
  refine og T45 (mkF m 22 #[vR ra0, vR ra1, vI ci4, vR ra5, vN] [.ref b1, .ref ra0]) (fun _ k => qn X45 hx hby d35_19 rfl rfl (tlt hc58).2.1 k) ?_
  have F60 := (Nat.le_trans (Nat.le_trans hk19 K28.1) K45.1)
  have F61 := (Nat.le_trans F53 K45.1)
  obtain ⟨l59, T59, h59, k59, lb59, lk59, X59, e59, E59, hS59, hk59, hZ59, hown59, Ex59, Fc59, Fv59, Av59, la59, lz59, ch59, Lt59, sf59, st59⟩ := ldcCH X45 hx hZ19 hown19 (ow hw 202) (own_wS hw) rfl hS19 F60 (own_EW hw) (by decide) CH55.1 (vs := []) (z := (0 : Int32)) (by decide) (by decide) (by decide) (g := (mkF m 22 #[vR ra0, vR ra1, vI ci4, vR ra5, vN] [.ref b1, .ref ra0])) rfl (hb hby d35_22) (n := 0) (by decide) (by decide) (lb rfl) (lb rfl)
  have CH62 := CHr.trans CH55 ch59
  have Ay59 : Arv Z h59 lb59 lk59 .byte (0 : Int32) (own_by ([] : List Int32)) (.int 0) := Av59
  refine og T59 (mkF m 46 #[vR ra0, vR ra1, vI ci4, vR ra5, vN] [.ref l59, .ref b1, .ref ra0]) (fun _ k => st59 _ (XS.goto X59.here hx rfl (pc0 := 24) (pc' := 46) rfl (hb hby d35_24) (by decide) (by decide) k)) ?_
  have hp63 : ∀ c ∈ ([] : List Int32), ¬ c < 0 ∧ ¬ (255 : Int32) < c := own_hpl _ rfl
  have S64 : own_st Z h59 l59 lb59 ([] : List Int32) (0 : Int32) := own_stL Ex59 Fv59 (by decide) Fc59 Ay59 hp63
  have F65 := (f49.ext E59)
  have F66 := (f50.ext E59)
  have ne67 : b1 ≠ o47 := (own_altne f48 ne42 (Nat.lt_of_lt_of_le (Nat.lt_of_lt_of_le (Nat.lt_of_lt_of_le A1.lt K7.1) E19.1) K28.1))
  have ne68 : lb59 ≠ b1 := (Ne.symm (own_ne_arv ((F46.keep K45).ext E59) (ow hw 59) Ay59))
  have F69 := ((F44.keep K45 (allS g2 (allS g34 all0))).ext E59)
  have F71 := ((F46.keep K45).ext E59)
  obtain ⟨_, T70, L70, X70, hQ70, st70⟩ := own_vc X59 hx hZ59 hown59 (ow hw 201) (ow hw 77) (ow hw 79) (ow hw 78) F71 (rm11_15 l Z a0 hw b1 o47 (((([] : List Int32) ++ cL0) ++ cs3)) ((13 : Int32)) ((16 : Int32)) l59 lb59 (([] : List Int32)) ((0 : Int32)) ((13 : Int32)) G1 G3 h59 n0 F69 F65 F66 S64 O2 P5 g51 ne67 O4 rG3 Sas SHI SLO g2 (ne_exa Ex59 ((F46.keep K45).ext E59) (by decide)) ne68 (Ne.symm (sf59 o47 (CHr.safe ch59 f49.ltb sf56)).2) (by (repeat' apply And.intro) <;> decide)) (ow hw 80) (ow hw 60) e59 (g := (mkF m 46 #[vR ra0, vR ra1, vI ci4, vR ra5, vN] [.ref l59, .ref b1, .ref ra0])) rfl (zs hml) (argsL := [.ref l59]) (rest := [.ref ra0]) (lenOf pd_22 rfl) rfl (hb hby d35_46) (W := 1) rfl
  obtain ⟨o72, rfl, Nq70, K70, f73, f74, f75⟩ := hQ70
  have N70 := Fr.app N45 Nq70
  have g76 : n0 ≤ o72 := own_altge f73 g51 (own_osz F69)
  have F78 := (Nat.le_trans F61 E59.1)
  have z77 : h0.size ≤ o72 := own_altge f73 z52 F78
  have ch79 := CHr.keep K70 (allS (Safe.exa hZ59.alike F71 (by decide) (by decide)) (allS (CHr.safe ch59 f49.ltb sf56) all0)) CH62.1
  have CH80 := CHr.trans CH62 ch79
  have F82 := (CHr.safe ch79 (Nat.lt_of_lt_of_le f49.ltb E59.1) (CHr.safe ch59 f49.ltb sf56))
  have sf81 := own_alt (P := fun z => Safe Z own_EL _ _ z) f73 F82 (fun q => Safe.keep K70 (allS (Safe.exa hZ59.alike F71 (by decide) (by decide)) (allS (CHr.safe ch59 f49.ltb sf56) all0)) CH62.1 (Safe.new q))
  refine ot T70 (mkF m 49 #[vR ra0, vR ra1, vI ci4, vR ra5, vN] [.ref b1, .ref ra0]) st70 ?_
  have F84 := (Nat.le_trans hk59 K70.1)
  have F85 := (Nat.le_trans F78 K70.1)
  obtain ⟨l83, T83, h83, k83, lb83, lk83, X83, e83, E83, hS83, hk83, hZ83, hown83, Ex83, Fc83, Fv83, Av83, la83, lz83, ch83, Lt83, sf83, st83⟩ := ldcCH X70 hx hZ59 hown59 (ow hw 203) (own_wS hw) rfl hS59 F84 (own_EW hw) (by decide) CH80.1 (vs := [.int 58, .int 32]) (z := (2 : Int32)) (by decide) (by decide) (by decide) (g := (mkF m 49 #[vR ra0, vR ra1, vI ci4, vR ra5, vN] [.ref b1, .ref ra0])) rfl (hb hby d35_49) (n := 8) (by decide) (by decide) (lb rfl) (lb rfl)
  have CH86 := CHr.trans CH80 ch83
  have Ay83 : Arv Z h83 lb83 lk83 .byte (2 : Int32) (own_by ([58, 32] : List Int32)) (.int 0) := Av83
  refine og T83 (mkF m 51 #[vR ra0, vR ra1, vI ci4, vR ra5, vN] [.ref l83, .ref b1, .ref ra0]) st83 ?_
  have hp87 : ∀ c ∈ ([58, 32] : List Int32), ¬ c < 0 ∧ ¬ (255 : Int32) < c := own_hpl _ rfl
  have S88 : own_st Z h83 l83 lb83 ([58, 32] : List Int32) (2 : Int32) := own_stL Ex83 Fv83 (by decide) Fc83 Ay83 hp87
  have F89 := (f74.ext E83)
  have F90 := (f75.ext E83)
  have ne91 : b1 ≠ o72 := (own_altne f73 ne67 (Nat.lt_of_lt_of_le (Nat.lt_of_lt_of_le (Nat.lt_of_lt_of_le (Nat.lt_of_lt_of_le (Nat.lt_of_lt_of_le A1.lt K7.1) E19.1) K28.1) K45.1) E59.1))
  have ne92 : lb83 ≠ b1 := (Ne.symm (own_ne_arv ((F71.keep K70).ext E83) (ow hw 59) Ay83))
  have F93 := ((F69.keep K70 (allS g2 (allS g51 all0))).ext E83)
  have F95 := ((F71.keep K70).ext E83)
  obtain ⟨_, T94, L94, X94, hQ94, st94⟩ := own_vc X83 hx hZ83 hown83 (ow hw 201) (ow hw 77) (ow hw 79) (ow hw 78) F95 (rm11_15 l Z a0 hw b1 o72 ((((([] : List Int32) ++ cL0) ++ cs3) ++ ([] : List Int32))) ((13 : Int32)) ((16 : Int32)) l83 lb83 (([58, 32] : List Int32)) ((2 : Int32)) ((15 : Int32)) G1 G3 h83 n0 F93 F89 F90 S88 O2 P5 g76 ne91 O4 rG3 Sas SHI SLO g2 (ne_exa Ex83 ((F71.keep K70).ext E83) (by decide)) ne92 (Ne.symm (sf83 o72 (CHr.safe ch83 f74.ltb sf81)).2) (by (repeat' apply And.intro) <;> decide)) (ow hw 80) (ow hw 60) e83 (g := (mkF m 51 #[vR ra0, vR ra1, vI ci4, vR ra5, vN] [.ref l83, .ref b1, .ref ra0])) rfl (zs hml) (argsL := [.ref l83]) (rest := [.ref ra0]) (lenOf pd_22 rfl) rfl (hb hby d35_51) (W := 1) rfl
  obtain ⟨o96, rfl, Nq94, K94, f97, f98, f99⟩ := hQ94
  have N94 := Fr.app N70 Nq94
  have g100 : n0 ≤ o96 := own_altge f97 g76 (own_osz F93)
  have F102 := (Nat.le_trans F85 E83.1)
  have z101 : h0.size ≤ o96 := own_altge f97 z77 F102
  have ch103 := CHr.keep K94 (allS (Safe.exa hZ83.alike F95 (by decide) (by decide)) (allS (CHr.safe ch83 f74.ltb sf81) all0)) CH86.1
  have CH104 := CHr.trans CH86 ch103
  have F106 := (CHr.safe ch103 (Nat.lt_of_lt_of_le f74.ltb E83.1) (CHr.safe ch83 f74.ltb sf81))
  have sf105 := own_alt (P := fun z => Safe Z own_EL _ _ z) f97 F106 (fun q => Safe.keep K94 (allS (Safe.exa hZ83.alike F95 (by decide) (by decide)) (allS (CHr.safe ch83 f74.ltb sf81) all0)) CH86.1 (Safe.new q))
  refine og T94 (mkF m 55 #[vR ra0, vR ra1, vI ci4, vR ra5, vN] [.ref ra5, .ref b1, .ref ra0]) (fun _ k => st94.trans (qa X94 hx hby d35_54 rfl rfl rfl k)) ?_
  have F107 := ((((S_ra5.ext E1).keep K7 (ninS (own_ne_lo S_ra5.lt (Nat.le_of_eq gb1.symm)) nin0) (ninS (own_ne_lo S_ra5.ltb (Nat.le_of_eq gb1.symm)) nin0)).ext E19).keep K28 (ninS (own_ne_lo S_ra5.lt (Nat.le_of_eq gb1.symm)) (ninS (own_ne_lo (Nat.lt_of_lt_of_le S_ra5.lt E1.1) f10) nin0)) (ninS (own_ne_lo S_ra5.ltb (Nat.le_of_eq gb1.symm)) (ninS (own_ne_lo (Nat.lt_of_lt_of_le S_ra5.ltb E1.1) f10) nin0)))
  have ne108 : ra5 ≠ o30 := (own_altne f31 (own_ne_lo (Nat.lt_of_lt_of_le S_ra5.lt E1.1) f10) (Nat.lt_of_lt_of_le (Nat.lt_of_lt_of_le (Nat.lt_of_lt_of_le S_ra5.lt E1.1) K7.1) E19.1))
  have ne109 : ra6 ≠ o30 := (own_altne f31 (own_ne_lo (Nat.lt_of_lt_of_le S_ra5.ltb E1.1) f10) (Nat.lt_of_lt_of_le (Nat.lt_of_lt_of_le (Nat.lt_of_lt_of_le S_ra5.ltb E1.1) K7.1) E19.1))
  have ne110 : ra5 ≠ o47 := (own_altne f48 ne108 (Nat.lt_of_lt_of_le (Nat.lt_of_lt_of_le (Nat.lt_of_lt_of_le (Nat.lt_of_lt_of_le S_ra5.lt E1.1) K7.1) E19.1) K28.1))
  have ne111 : ra6 ≠ o47 := (own_altne f48 ne109 (Nat.lt_of_lt_of_le (Nat.lt_of_lt_of_le (Nat.lt_of_lt_of_le (Nat.lt_of_lt_of_le S_ra5.ltb E1.1) K7.1) E19.1) K28.1))
  have F112 := ((((F107.keep K45 (ninS (own_ne_lo S_ra5.lt (Nat.le_of_eq gb1.symm)) (ninS ne108 nin0)) (ninS (own_ne_lo S_ra5.ltb (Nat.le_of_eq gb1.symm)) (ninS ne109 nin0))).ext E59).keep K70 (ninS (own_ne_lo S_ra5.lt (Nat.le_of_eq gb1.symm)) (ninS ne110 nin0)) (ninS (own_ne_lo S_ra5.ltb (Nat.le_of_eq gb1.symm)) (ninS ne111 nin0))).ext E83)
  have ne113 : ra5 ≠ o72 := (own_altne f73 ne110 (Nat.lt_of_lt_of_le (Nat.lt_of_lt_of_le (Nat.lt_of_lt_of_le (Nat.lt_of_lt_of_le (Nat.lt_of_lt_of_le (Nat.lt_of_lt_of_le S_ra5.lt E1.1) K7.1) E19.1) K28.1) K45.1) E59.1))
  have ne114 : ra6 ≠ o72 := (own_altne f73 ne111 (Nat.lt_of_lt_of_le (Nat.lt_of_lt_of_le (Nat.lt_of_lt_of_le (Nat.lt_of_lt_of_le (Nat.lt_of_lt_of_le (Nat.lt_of_lt_of_le S_ra5.ltb E1.1) K7.1) E19.1) K28.1) K45.1) E59.1))
  have F115 := (F112.keep K94 (ninS (own_ne_lo S_ra5.lt (Nat.le_of_eq gb1.symm)) (ninS ne113 nin0)) (ninS (own_ne_lo S_ra5.ltb (Nat.le_of_eq gb1.symm)) (ninS ne114 nin0)))
  have F116 := (F93.keep K94 (allS g2 (allS g76 all0)))
  have F118 := (F95.keep K94)
  obtain ⟨_, T117, L117, X117, hQ117, st117⟩ := own_vc X94 hx hZ83 hown83 (ow hw 201) (ow hw 77) (ow hw 79) (ow hw 78) F118 (rm11_68 l Z a0 hw b1 o96 (((((([] : List Int32) ++ cL0) ++ cs3) ++ ([] : List Int32)) ++ ([58, 32] : List Int32))) ((15 : Int32)) ((16 : Int32)) ra5 ra6 cs7 ((33 : Int32)) ((48 : Int32)) ((48 : Int32)) G1 G3 T94.heap n0 F116 f98 f99 F115 O2 P5 g2 (own_ne_lo S_ra5.lt (Nat.le_of_eq gb1.symm)) (own_ne_lo S_ra5.ltb (Nat.le_of_eq gb1.symm)) O4 rG3 Sas SHI SLO (by (repeat' apply And.intro) <;> decide)) (ow hw 80) (ow hw 60) rfl (g := (mkF m 55 #[vR ra0, vR ra1, vI ci4, vR ra5, vN] [.ref ra5, .ref b1, .ref ra0])) rfl (zs hml) (argsL := [.ref ra5]) (rest := [.ref ra0]) (lenOf pd_22 rfl) rfl (hb hby d35_55) (W := 1) rfl
  obtain ⟨o119, rfl, Nq117, K117, f120, f121, f122⟩ := hQ117
  have N117 := Fr.app N94 Nq117
  have g123 : n0 ≤ o119 := Nat.le_trans (own_osz F116) f120
  have F125 := (Nat.le_trans F102 K94.1)
  have z124 : h0.size ≤ o119 := Nat.le_trans F125 f120
  have ch126 := CHr.keep K117 (allS (Safe.exa hZ83.alike F118 (by decide) (by decide)) all0) CH104.1
  have CH127 := CHr.trans CH104 ch126
  have sf128 := Safe.keep K117 (allS (Safe.exa hZ83.alike F118 (by decide) (by decide)) all0) CH104.1 (Safe.new f120)
  refine ot T117 (mkF m 58 #[vR ra0, vR ra1, vI ci4, vR ra5, vN] [.ref b1, .ref ra0]) st117 ?_
  have F129 := (F116.keep K117 (allS g2 all0))
  have F131 := (F118.keep K117)
  obtain ⟨_, T130, L130, X130, hQ130, st130⟩ := own_vc X117 hx hZ83 hown83 (ow hw 204) (ow hw 149) (ow hw 151) (ow hw 150) F131 (rm24_75 l Z a0 hw b1 o119 ((((((([] : List Int32) ++ cL0) ++ cs3) ++ ([] : List Int32)) ++ ([58, 32] : List Int32)) ++ cs7)) ((48 : Int32)) ((48 : Int32)) ((48 : Int32)) G1 T117.heap n0 F129 f121 f122 O2 P5 (by decide : (48 : Int32) = (48 : Int32)) (by decide : (48 : Int32).toNatClampNeg ≤ 400) (by decide : (48 : Int32) = (48 : Int32)) (rfl : ((48 : Int32) <<< ((1 : Int32) &&& 31)) = ((48 : Int32) <<< ((1 : Int32) &&& 31))) (by decide : ((48 : Int32) <<< ((1 : Int32) &&& 31)).toNatClampNeg ≤ 400) (rfl : ((48 : Int32) <<< ((1 : Int32) &&& 31)) = ((48 : Int32) <<< ((1 : Int32) &&& 31)))) (ow hw 152) (ow hw 60) rfl (g := (mkF m 58 #[vR ra0, vR ra1, vI ci4, vR ra5, vN] [.ref b1, .ref ra0])) rfl (zs hml) (argsL := []) (rest := [.ref ra0]) (lenOf pd_30 rfl) rfl (hb hby d35_58) (W := 1) rfl
  obtain ⟨o132, o133, rfl, Nq130, K130, f134, f135, f136⟩ := hQ130
  have N130 := Fr.app N117 Nq130
  have g137 : n0 ≤ o132 := Nat.le_trans (own_osz F129) f134
  have F139 := (Nat.le_trans F125 K117.1)
  have z138 : h0.size ≤ o132 := Nat.le_trans F139 f134
  have g140 : n0 ≤ o133 := Nat.le_trans (own_osz F129) f135
  have z141 : h0.size ≤ o133 := Nat.le_trans F139 f135
  have ch142 := CHr.keep K130 all0 CH127.1
  have CH143 := CHr.trans CH127 ch142
  have sf144 := Safe.keep K130 all0 CH127.1 (Safe.new f134)
  have sf145 := Safe.keep K130 all0 CH127.1 (Safe.new f135)
  refine og T130 (mkF m 63 #[vR ra0, vR ra1, vI ci4, vR ra5, vN] [.null, .ref o132, .ref ra0]) (fun _ k => st130.trans (XS.aload X130.here hx rfl (hb hby d35_61) rfl rfl k)) ?_
  have F146 := ((((U_ra0.ext E1).keep K7 (ninS (own_ne_lo A'.lt (Nat.le_of_eq gb1.symm)) nin0)).ext E19).keep K28 (ninS (own_ne_lo A'.lt (Nat.le_of_eq gb1.symm)) (ninS (own_ne_lo (Nat.lt_of_lt_of_le A'.lt E1.1) f10) nin0)))
  have ne147 : ra0 ≠ o30 := (own_altne f31 (own_ne_lo (Nat.lt_of_lt_of_le A'.lt E1.1) f10) (Nat.lt_of_lt_of_le (Nat.lt_of_lt_of_le (Nat.lt_of_lt_of_le A'.lt E1.1) K7.1) E19.1))
  have ne148 : ra0 ≠ o47 := (own_altne f48 ne147 (Nat.lt_of_lt_of_le (Nat.lt_of_lt_of_le (Nat.lt_of_lt_of_le (Nat.lt_of_lt_of_le A'.lt E1.1) K7.1) E19.1) K28.1))
  have F149 := ((((F146.keep K45 (ninS (own_ne_lo A'.lt (Nat.le_of_eq gb1.symm)) (ninS ne147 nin0))).ext E59).keep K70 (ninS (own_ne_lo A'.lt (Nat.le_of_eq gb1.symm)) (ninS ne148 nin0))).ext E83)
  have ne150 : ra0 ≠ o72 := (own_altne f73 ne148 (Nat.lt_of_lt_of_le (Nat.lt_of_lt_of_le (Nat.lt_of_lt_of_le (Nat.lt_of_lt_of_le (Nat.lt_of_lt_of_le (Nat.lt_of_lt_of_le A'.lt E1.1) K7.1) E19.1) K28.1) K45.1) E59.1))
  have F151 := (((F149.keep K94 (ninS (own_ne_lo A'.lt (Nat.le_of_eq gb1.symm)) (ninS ne150 nin0))).keep K117 (ninS (own_ne_lo A'.lt (Nat.le_of_eq gb1.symm)) nin0)).keep K130 nin0)
  have F152 := ((((A'.ext E1).keep K7).ext E19).keep K28)
  have F153 := ((((F152.keep K45).ext E59).keep K70).ext E83)
  have F154 := (((F153.keep K94).keep K117).keep K130)
  have F155 := ((((B'.ext E1).keep K7 (ninS (own_ne_lo A'.lt (Nat.le_of_eq gb1.symm)) nin0)).ext E19).keep K28 (ninS (own_ne_lo A'.lt (Nat.le_of_eq gb1.symm)) (ninS (own_ne_lo (Nat.lt_of_lt_of_le A'.lt E1.1) f10) nin0)))
  have F156 := ((((F155.keep K45 (ninS (own_ne_lo A'.lt (Nat.le_of_eq gb1.symm)) (ninS ne147 nin0))).ext E59).keep K70 (ninS (own_ne_lo A'.lt (Nat.le_of_eq gb1.symm)) (ninS ne148 nin0))).ext E83)
  have F157 := (((F156.keep K94 (ninS (own_ne_lo A'.lt (Nat.le_of_eq gb1.symm)) (ninS ne150 nin0))).keep K117 (ninS (own_ne_lo A'.lt (Nat.le_of_eq gb1.symm)) nin0)).keep K130 nin0)
  have F158 := ((((C'.ext E1).keep K7 (ninS (own_ne_lo A'.lt (Nat.le_of_eq gb1.symm)) nin0)).ext E19).keep K28 (ninS (own_ne_lo A'.lt (Nat.le_of_eq gb1.symm)) (ninS (own_ne_lo (Nat.lt_of_lt_of_le A'.lt E1.1) f10) nin0)))
  have F159 := ((((F158.keep K45 (ninS (own_ne_lo A'.lt (Nat.le_of_eq gb1.symm)) (ninS ne147 nin0))).ext E59).keep K70 (ninS (own_ne_lo A'.lt (Nat.le_of_eq gb1.symm)) (ninS ne148 nin0))).ext E83)
  have F160 := (((F159.keep K94 (ninS (own_ne_lo A'.lt (Nat.le_of_eq gb1.symm)) (ninS ne150 nin0))).keep K117 (ninS (own_ne_lo A'.lt (Nat.le_of_eq gb1.symm)) nin0)).keep K130 nin0)
  have F161 := ((((D'.ext E1).keep K7 (ninS (own_ne_lo A'.lt (Nat.le_of_eq gb1.symm)) nin0)).ext E19).keep K28 (ninS (own_ne_lo A'.lt (Nat.le_of_eq gb1.symm)) (ninS (own_ne_lo (Nat.lt_of_lt_of_le A'.lt E1.1) f10) nin0)))
  have F162 := ((((F161.keep K45 (ninS (own_ne_lo A'.lt (Nat.le_of_eq gb1.symm)) (ninS ne147 nin0))).ext E59).keep K70 (ninS (own_ne_lo A'.lt (Nat.le_of_eq gb1.symm)) (ninS ne148 nin0))).ext E83)
  have F163 := (((F162.keep K94 (ninS (own_ne_lo A'.lt (Nat.le_of_eq gb1.symm)) (ninS ne150 nin0))).keep K117 (ninS (own_ne_lo A'.lt (Nat.le_of_eq gb1.symm)) nin0)).keep K130 nin0)
  have F164 := ((((E'.ext E1).keep K7 (ninS (own_ne_lo A'.lt (Nat.le_of_eq gb1.symm)) nin0)).ext E19).keep K28 (ninS (own_ne_lo A'.lt (Nat.le_of_eq gb1.symm)) (ninS (own_ne_lo (Nat.lt_of_lt_of_le A'.lt E1.1) f10) nin0)))
  have F165 := ((((F164.keep K45 (ninS (own_ne_lo A'.lt (Nat.le_of_eq gb1.symm)) (ninS ne147 nin0))).ext E59).keep K70 (ninS (own_ne_lo A'.lt (Nat.le_of_eq gb1.symm)) (ninS ne148 nin0))).ext E83)
  have F166 := (((F165.keep K94 (ninS (own_ne_lo A'.lt (Nat.le_of_eq gb1.symm)) (ninS ne150 nin0))).keep K117 (ninS (own_ne_lo A'.lt (Nat.le_of_eq gb1.symm)) nin0)).keep K130 nin0)
  have F167 := ((((F'.ext E1).keep K7 (ninS (own_ne_lo A'.lt (Nat.le_of_eq gb1.symm)) nin0)).ext E19).keep K28 (ninS (own_ne_lo A'.lt (Nat.le_of_eq gb1.symm)) (ninS (own_ne_lo (Nat.lt_of_lt_of_le A'.lt E1.1) f10) nin0)))
  have F168 := ((((F167.keep K45 (ninS (own_ne_lo A'.lt (Nat.le_of_eq gb1.symm)) (ninS ne147 nin0))).ext E59).keep K70 (ninS (own_ne_lo A'.lt (Nat.le_of_eq gb1.symm)) (ninS ne148 nin0))).ext E83)
  have F169 := (((F168.keep K94 (ninS (own_ne_lo A'.lt (Nat.le_of_eq gb1.symm)) (ninS ne150 nin0))).keep K117 (ninS (own_ne_lo A'.lt (Nat.le_of_eq gb1.symm)) nin0)).keep K130 nin0)
  have F170 := ((((G'.ext E1).keep K7 (ninS (own_ne_lo A'.lt (Nat.le_of_eq gb1.symm)) nin0)).ext E19).keep K28 (ninS (own_ne_lo A'.lt (Nat.le_of_eq gb1.symm)) (ninS (own_ne_lo (Nat.lt_of_lt_of_le A'.lt E1.1) f10) nin0)))
  have F171 := ((((F170.keep K45 (ninS (own_ne_lo A'.lt (Nat.le_of_eq gb1.symm)) (ninS ne147 nin0))).ext E59).keep K70 (ninS (own_ne_lo A'.lt (Nat.le_of_eq gb1.symm)) (ninS ne148 nin0))).ext E83)
  have F172 := (((F171.keep K94 (ninS (own_ne_lo A'.lt (Nat.le_of_eq gb1.symm)) (ninS ne150 nin0))).keep K117 (ninS (own_ne_lo A'.lt (Nat.le_of_eq gb1.symm)) nin0)).keep K130 nin0)
  have F173 := (F129.keep K130 all0)
  obtain ⟨_, _, ⟨T174, L174, k174, n174⟩, -, X174, hs174, hg174, ⟨Lc174, hQ174, l174, y174, z174, ch174⟩, st174⟩ := X130.specialBackS hx (y := y44) rfl hown83 (mvT hZ83 (ow hw 214)) (mvT hZ83 (ow hw 215)) (mvT hZ83 (ow hw 218)) (by decide) (own_backSH (W := 0) (rm36_85 l Z a0 hw ra0 ((0 : Int32)) o132 o133 ((((((([] : List Int32) ++ cL0) ++ cs3) ++ ([] : List Int32)) ++ ([58, 32] : List Int32)) ++ cs7)) ((48 : Int32)) us up T130.heap n0 F173 F151 F154 F157 F160 F163 F166 F169 F172 f136 H' Sus rf_us Sup rf_up hl rus) hZ83 (ow hw 218) (ow hw 217) (lb rfl) (lb rfl) (own_EW hw) CH143.1 all0 (fun _ => ⟨Vm.MethodsKnown.alikeC hS83.1.alike (hKn rfl).1, Vm.FramesKnown.alikeC hS83.1.alike (hKn rfl).2⟩)) (g := (mkF m 63 #[vR ra0, vR ra1, vI ci4, vR ra5, vN] [.null, .ref o132, .ref ra0])) rfl (zs hml) (Steps.refl _) (a := ra0) (argsL := [.ref o132, .null]) (rest := []) (lenOf pd_31 rfl) rfl (lb rfl) (hb hby d35_63) (fun _ _ => ⟨rfl, rfl, (lb rfl), (lb rfl)⟩)
  dsimp only [Pt.U, Pt.locs, Pt.cells, Pt.slots] at X174 l174 y174 z174 st174 hQ174 hs174 hg174 ch174
  subst l174 y174 z174
  replace X174 := own_reb X174
  have F175 := (Nat.le_trans (Nat.le_trans (Nat.le_trans hk83 K94.1) K117.1) K130.1)
  obtain ⟨hZ174, hS174, hown174⟩ := own_after hZ83 hS83 rfl F175 hs174 hg174 hown83
  obtain ⟨rfl, Nq174, K174, f176, f177, f178, f179⟩ := hQ174
  have N174 := Fr.app N130 Nq174
  have CH180 := CHr.trans CH143 ch174
  refine ot T174 (mkF m 66 #[vR ra0, vR ra1, vI ci4, vR ra5, vN] []) st174 ?_
  have ne181 : ra0 ≠ o132 := (own_ne_lo (Nat.lt_of_lt_of_le (Nat.lt_of_lt_of_le (Nat.lt_of_lt_of_le (Nat.lt_of_lt_of_le (Nat.lt_of_lt_of_le (Nat.lt_of_lt_of_le (Nat.lt_of_lt_of_le (Nat.lt_of_lt_of_le (Nat.lt_of_lt_of_le (Nat.lt_of_lt_of_le A'.lt E1.1) K7.1) E19.1) K28.1) K45.1) E59.1) K70.1) E83.1) K94.1) K117.1) f134)
  have ne182 : ra0 ≠ o133 := (own_ne_lo (Nat.lt_of_lt_of_le (Nat.lt_of_lt_of_le (Nat.lt_of_lt_of_le (Nat.lt_of_lt_of_le (Nat.lt_of_lt_of_le (Nat.lt_of_lt_of_le (Nat.lt_of_lt_of_le (Nat.lt_of_lt_of_le (Nat.lt_of_lt_of_le (Nat.lt_of_lt_of_le A'.lt E1.1) K7.1) E19.1) K28.1) K45.1) E59.1) K70.1) E83.1) K94.1) K117.1) f135)
  have F183 := (f136.keep K174 (ninS (Ne.symm ne181) nin0) (ninS (Ne.symm ne182) nin0))
  have S184 : own_st Z T174.heap o132 o133 (((((([] : List Int32) ++ cL0) ++ cs3) ++ (own_lm ci4)) ++ ([58, 32] : List Int32)) ++ cs7) (own_ml ci4) := by rw [own_lmT hc58, own_mlT hc58]; exact F183
  have K396 := (((((Keep.refl h0 [ra0]).ext E1).trans K7 (allS (Or.inr z3) all0)).ext E19).trans K28 (allS (Or.inr z3) (allS (Or.inr z14) all0)))
  have K397 := ((((K396.trans K45 (allS (Or.inr z3) (allS (Or.inr z35) all0))).ext E59).trans K70 (allS (Or.inr z3) (allS (Or.inr z52) all0))).ext E83)
  have K398 := ((((K397.trans K94 (allS (Or.inr z3) (allS (Or.inr z77) all0))).trans K117 (allS (Or.inr z3) all0)).trans K130 all0).trans K174 (allS (Or.inl (List.mem_of_getElem? (i := 0) rfl)) all0))
  have KEEP := K398
  exact own_leaveW (s := s) (vm0 := T174.vm) X174 hS174 (Nat.le_refl _) hZ174 (own_EW hw) rfl CH180 hh hlk (v := none) (fun _ => rfl) (lb rfl) (lb rfl) (by exact ⟨o132, o133, rfl, N174, KEEP, z138, z141, f176, f177, f178, f179, S184⟩) (fun fs hr => X174.returnOut hx hret (hb hby d35_66) hr)
 ·
  refine og T45 (mkF m 27 #[vR ra0, vR ra1, vI ci4, vR ra5, vN] [.ref b1, .ref ra0]) (fun _ k => XS.icmpYes X45.here hx rfl (pc0 := 19) (pc' := 27) rfl (hb hby d35_19) rfl (flt hc58).2.1 (by decide) (by decide) k) ?_
  obtain ⟨hd185a, hd185b, hd185c, hd185d⟩ := own_dn19 hc58 hk10
  obtain ⟨T186, h186, X186, e186, E186, A186, D186, U186, st186⟩ := newO X45 hx hZ19 hown19 (ow hw 198) (ow hw 59) (ow hw 60) rfl (g := (mkF m 27 #[vR ra0, vR ra1, vI ci4, vR ra5, vN] [.ref b1, .ref ra0])) rfl (hb hby d35_27) (lb rfl) (lb rfl)
  obtain ⟨b186, gb186⟩ : ∃ z, z = T45.heap.size := ⟨_, rfl⟩
  rw [← gb186] at A186 D186 U186 st186
  have F188 := (F44.keep K45 (allS g2 (allS g34 all0)))
  have g187 : n0 ≤ b186 := Nat.le_trans (own_osz F188) (Nat.le_of_eq gb186.symm)
  have F190 := (Nat.le_trans F53 K45.1)
  have z189 : h0.size ≤ b186 := Nat.le_trans F190 (Nat.le_of_eq gb186.symm)
  have ch191 := CHr.ext E186 CH55.1
  have CH192 := CHr.trans CH55 ch191
  refine og T186 (mkF m 31 #[vR ra0, vR ra1, vI ci4, vR ra5, vN] [.ref b186, .ref b186, .ref b1, .ref ra0]) (fun _ k => st186 _ (XS.dup X186.here hx rfl (hb hby d35_30) rfl rfl k)) ?_
  have F193 := (F188.ext E186)
  obtain ⟨_, T194, L194, X194, hQ194, st194⟩ := own_sc X186 hx hZ19 rfl hown19 (ow hw 199) (ow hw 62) (rm9_13 l Z a0 hw b186 ((0 : Int32)) G1 h186 n0 F193 A186 (D186 (Or.inl (ow hw 75)) (ty := .byte) (by decide)) (D186 (Or.inl (ow hw 97)) (ty := .int) (by decide)) (D186 (Or.inl (ow hw 368)) (ty := .boolean) (by decide)) (D186 (Or.inl (ow hw 73)) (ty := (.array .byte)) (by decide)) O2 P5 g187) (ow hw 63) (ow hw 60) e186 (g := (mkF m 31 #[vR ra0, vR ra1, vI ci4, vR ra5, vN] [.ref b186, .ref b186, .ref b1, .ref ra0])) rfl (zs hml) (argsL := []) (rest := [.ref b186, .ref b1, .ref ra0]) (lenOf pd_5 rfl) rfl (hb hby d35_31) (W := 3) rfl
  obtain ⟨o195, kc196, rfl, Nq194, K194, f197, f198, f199⟩ := hQ194
  have N194 := Fr.app N45 Nq194
  have g200 : n0 ≤ o195 := Nat.le_trans (own_osz F193) f197
  have F202 := (Nat.le_trans F190 E186.1)
  have z201 : h0.size ≤ o195 := Nat.le_trans F202 f197
  have ch203 := CHr.keep K194 (allS (Safe.exa hZ19.alike A186 (by decide) (by decide)) all0) CH192.1
  have CH204 := CHr.trans CH192 ch203
  have sf205 := Safe.keep K194 (allS (Safe.exa hZ19.alike A186 (by decide) (by decide)) all0) CH192.1 (Safe.new f197)
  refine ot T194 (mkF m 34 #[vR ra0, vR ra1, vI ci4, vR ra5, vN] [.ref b186, .ref b1, .ref ra0]) st194 ?_
  have F207 := (Nat.le_trans (Nat.le_trans (Nat.le_trans (Nat.le_trans hk19 K28.1) K45.1) E186.1) K194.1)
  have F208 := (Nat.le_trans F202 K194.1)
  obtain ⟨l206, T206, h206, k206, lb206, lk206, X206, e206, E206, hS206, hk206, hZ206, hown206, Ex206, Fc206, Fv206, Av206, la206, lz206, ch206, Lt206, sf206, st206⟩ := ldcCH X194 hx hZ19 hown19 (ow hw 306) (own_wS hw) rfl hS19 F207 (own_EW hw) (by decide) CH204.1 (vs := [.int 44, .int 32, .int 108, .int 105, .int 110, .int 101, .int 32]) (z := (7 : Int32)) (by decide) (by decide) (by decide) (g := (mkF m 34 #[vR ra0, vR ra1, vI ci4, vR ra5, vN] [.ref b186, .ref b1, .ref ra0])) rfl (hb hby d35_34) (n := 28) (by decide) (by decide) (lb rfl) (lb rfl)
  have CH209 := CHr.trans CH204 ch206
  have Ay206 : Arv Z h206 lb206 lk206 .byte (7 : Int32) (own_by cL3) (.int 0) := Av206
  refine og T206 (mkF m 36 #[vR ra0, vR ra1, vI ci4, vR ra5, vN] [.ref l206, .ref b186, .ref b1, .ref ra0]) st206 ?_
  have hp210 : own_L cL3 := own_hpl _ rfl
  have S211 : own_st Z h206 l206 lb206 cL3 (7 : Int32) := own_stL Ex206 Fv206 (by decide) Fc206 Ay206 hp210
  have F212 := (f198.ext E206)
  have F213 := (f199.ext E206)
  have ne214 : lb206 ≠ b186 := (Ne.symm (own_ne_arv ((A186.keep K194).ext E206) (ow hw 59) Ay206))
  have F215 := ((F193.keep K194 (allS g187 all0)).ext E206)
  have F217 := ((A186.keep K194).ext E206)
  obtain ⟨_, T216, L216, X216, hQ216, st216⟩ := own_vc X206 hx hZ206 hown206 (ow hw 201) (ow hw 77) (ow hw 79) (ow hw 78) F217 (rm11_15 l Z a0 hw b186 o195 (([] : List Int32)) ((0 : Int32)) ((16 : Int32)) l206 lb206 cL3 ((7 : Int32)) ((7 : Int32)) G1 G3 h206 n0 F215 F212 F213 S211 O2 P5 g200 (own_ne_lo A186.lt f197) O4 rG3 Sas SHI SLO g187 (ne_exa Ex206 ((A186.keep K194).ext E206) (by decide)) ne214 (Ne.symm (sf206 o195 (CHr.safe ch206 f198.ltb sf205)).2) (by (repeat' apply And.intro) <;> decide)) (ow hw 80) (ow hw 60) e206 (g := (mkF m 36 #[vR ra0, vR ra1, vI ci4, vR ra5, vN] [.ref l206, .ref b186, .ref b1, .ref ra0])) rfl (zs hml) (argsL := [.ref l206]) (rest := [.ref b1, .ref ra0]) (lenOf pd_22 rfl) rfl (hb hby d35_36) (W := 2) rfl
  obtain ⟨o218, rfl, Nq216, K216, f219, f220, f221⟩ := hQ216
  have N216 := Fr.app N194 Nq216
  have g222 : n0 ≤ o218 := own_altge f219 g200 (own_osz F215)
  have F224 := (Nat.le_trans F208 E206.1)
  have z223 : h0.size ≤ o218 := own_altge f219 z201 F224
  have ch225 := CHr.keep K216 (allS (Safe.exa hZ206.alike F217 (by decide) (by decide)) (allS (CHr.safe ch206 f198.ltb sf205) all0)) CH209.1
  have CH226 := CHr.trans CH209 ch225
  have F228 := (CHr.safe ch225 (Nat.lt_of_lt_of_le f198.ltb E206.1) (CHr.safe ch206 f198.ltb sf205))
  have sf227 := own_alt (P := fun z => Safe Z own_EL _ _ z) f219 F228 (fun q => Safe.keep K216 (allS (Safe.exa hZ206.alike F217 (by decide) (by decide)) (allS (CHr.safe ch206 f198.ltb sf205) all0)) CH209.1 (Safe.new q))
  refine og T216 (mkF m 40 #[vR ra0, vR ra1, vI ci4, vR ra5, vN] [.int ci4, .ref b186, .ref b1, .ref ra0]) (fun _ k => st216.trans (qi X216 hx hby d35_39 rfl rfl k)) ?_
  have hp229 : ∀ c ∈ ([] : List Int32), ¬ c < 0 ∧ ¬ (255 : Int32) < c := own_hpl _ rfl
  have ne230 : b186 ≠ o218 := (own_altne f219 (own_ne_lo A186.lt f197) (Nat.lt_of_lt_of_le (Nat.lt_of_lt_of_le A186.lt K194.1) E206.1))
  have F231 := (F215.keep K216 (allS g187 (allS g200 all0)))
  have F233 := (F217.keep K216)
  obtain ⟨_, T232, L232, X232, hQ232, st232⟩ := own_vc X216 hx hZ206 hown206 (ow hw 307) (ow hw 308) (ow hw 310) (ow hw 309) F233 (rm50_86 l Z a0 hw b186 o218 ((([] : List Int32) ++ cL3)) ((7 : Int32)) ((16 : Int32)) ((8 : Int32)) ci4 G1 dg kdg T216.heap n0 F231 f220 f221 (own_happ hp229 hp210) O2 P5 SG0 VG0 g222 ne230 g187 ⟨hd185a, hd185b, hd185c, hd185d, (by decide : ¬ ((0 : Int32) < (((7 : Int32) + (1 : Int32)) - ((16 : Int32) >>> ((0 : Int32) &&& 31))))), (by decide : ¬ ((0 : Int32) < (((7 : Int32) + (1 : Int32)) - (((16 : Int32) <<< ((1 : Int32) &&& 31)) >>> ((1 : Int32) &&& 31))))), (by decide : (((7 : Int32) + (1 : Int32)) + (-1 : Int32)).toNatClampNeg = (7 : Int32).toNatClampNeg), (by decide : ¬ ((((7 : Int32) + (1 : Int32)) + (-1 : Int32)) < (0 : Int32))), (by decide : (((7 : Int32) + (1 : Int32)) + (-1 : Int32)) < (16 : Int32)), (by decide : ((7 : Int32).toNatClampNeg + 1) = (8 : Int32).toNatClampNeg)⟩) (ow hw 311) (ow hw 60) rfl (g := (mkF m 40 #[vR ra0, vR ra1, vI ci4, vR ra5, vN] [.int ci4, .ref b186, .ref b1, .ref ra0])) rfl (zs hml) (argsL := [.int ci4]) (rest := [.ref b1, .ref ra0]) (lenOf pd_34 rfl) rfl (hb hby d35_40) (W := 2) rfl
  obtain ⟨rfl, Nq232, K232, f234, f235⟩ := hQ232
  have N232 := Fr.app N216 Nq232
  have ch236 := CHr.keep K232 (allS sf227 (allS (Safe.exa hZ206.alike F233 (by decide) (by decide)) all0)) CH226.1
  have CH237 := CHr.trans CH226 ch236
  refine ot T232 (mkF m 43 #[vR ra0, vR ra1, vI ci4, vR ra5, vN] [.ref b186, .ref b1, .ref ra0]) st232 ?_
  have F238 := (F231.keep K232 (allS g222 (allS g187 all0)))
  have F240 := (F233.keep K232)
  obtain ⟨_, T239, L239, X239, hQ239, st239⟩ := own_vc X232 hx hZ206 hown206 (ow hw 204) (ow hw 149) (ow hw 151) (ow hw 150) F240 (rm24_53 l Z a0 hw b186 o218 (((([] : List Int32) ++ cL3) ++ ([(48 + ci4)] : List Int32))) ((8 : Int32)) ((16 : Int32)) ((8 : Int32)) G1 T232.heap n0 F238 f234 f235 O2 P5 (by decide : ¬ ((8 : Int32) = (16 : Int32))) (by decide : ¬ ((8 : Int32) < (0 : Int32))) (by decide : ¬ (((8 : Int32) - (0 : Int32)) < (0 : Int32))) (by decide : ((8 : Int32) - (0 : Int32)).toNatClampNeg ≤ 400) (by decide : ((8 : Int32) - (0 : Int32)) < ((16 : Int32) - (0 : Int32))) (by decide : ((8 : Int32) - (0 : Int32)).toNatClampNeg ≤ (16 : Int32).toNatClampNeg) (by decide : (0 : Int32).toNatClampNeg + ((8 : Int32) - (0 : Int32)).toNatClampNeg ≤ ((8 : Int32) - (0 : Int32)).toNatClampNeg) (by decide : (8 : Int32).toNatClampNeg ≤ ((8 : Int32) - (0 : Int32)).toNatClampNeg) (by decide : ((8 : Int32) - (0 : Int32)) = (8 : Int32)) (by decide : ¬ (((8 : Int32) <<< ((1 : Int32) &&& 31)) = ((16 : Int32) <<< ((1 : Int32) &&& 31)))) (by decide : ¬ (((8 : Int32) <<< ((1 : Int32) &&& 31)) < (0 : Int32))) (by decide : ¬ ((((8 : Int32) <<< ((1 : Int32) &&& 31)) - (0 : Int32)) < (0 : Int32))) (by decide : (((8 : Int32) <<< ((1 : Int32) &&& 31)) - (0 : Int32)).toNatClampNeg ≤ 400) (by decide : (((8 : Int32) <<< ((1 : Int32) &&& 31)) - (0 : Int32)) < (((16 : Int32) <<< ((1 : Int32) &&& 31)) - (0 : Int32))) (by decide : (((8 : Int32) <<< ((1 : Int32) &&& 31)) - (0 : Int32)).toNatClampNeg ≤ ((16 : Int32) <<< ((1 : Int32) &&& 31)).toNatClampNeg) (by decide : (0 : Int32).toNatClampNeg + (((8 : Int32) <<< ((1 : Int32) &&& 31)) - (0 : Int32)).toNatClampNeg ≤ (((8 : Int32) <<< ((1 : Int32) &&& 31)) - (0 : Int32)).toNatClampNeg) (by decide : (2 * (8 : Int32).toNatClampNeg) ≤ (((8 : Int32) <<< ((1 : Int32) &&& 31)) - (0 : Int32)).toNatClampNeg) (by decide : (((8 : Int32) <<< ((1 : Int32) &&& 31)) - (0 : Int32)) = ((8 : Int32) <<< ((1 : Int32) &&& 31)))) (ow hw 152) (ow hw 60) rfl (g := (mkF m 43 #[vR ra0, vR ra1, vI ci4, vR ra5, vN] [.ref b186, .ref b1, .ref ra0])) rfl (zs hml) (argsL := []) (rest := [.ref b1, .ref ra0]) (lenOf pd_30 rfl) rfl (hb hby d35_43) (W := 2) rfl
  obtain ⟨o241, o242, rfl, Nq239, K239, f243, f244, f245⟩ := hQ239
  have N239 := Fr.app N232 Nq239
  have g246 : n0 ≤ o241 := Nat.le_trans (own_osz F238) f243
  have F248 := (Nat.le_trans (Nat.le_trans F224 K216.1) K232.1)
  have z247 : h0.size ≤ o241 := Nat.le_trans F248 f243
  have g249 : n0 ≤ o242 := Nat.le_trans (own_osz F238) f244
  have z250 : h0.size ≤ o242 := Nat.le_trans F248 f244
  have ch251 := CHr.keep K239 all0 CH237.1
  have CH252 := CHr.trans CH237 ch251
  have sf253 := Safe.keep K239 all0 CH237.1 (Safe.new f243)
  have sf254 := Safe.keep K239 all0 CH237.1 (Safe.new f244)
  refine ot T239 (mkF m 46 #[vR ra0, vR ra1, vI ci4, vR ra5, vN] [.ref o241, .ref b1, .ref ra0]) st239 ?_
  have ne255 : b1 ≠ b186 := (own_ne_lo (Nat.lt_of_lt_of_le (Nat.lt_of_lt_of_le (Nat.lt_of_lt_of_le (Nat.lt_of_lt_of_le A1.lt K7.1) E19.1) K28.1) K45.1) (Nat.le_of_eq gb186.symm))
  have ne256 : b1 ≠ o195 := (own_ne_lo (Nat.lt_of_lt_of_le (Nat.lt_of_lt_of_le (Nat.lt_of_lt_of_le (Nat.lt_of_lt_of_le (Nat.lt_of_lt_of_le A1.lt K7.1) E19.1) K28.1) K45.1) E186.1) f197)
  have F257 := ((((f49.ext E186).keep K194 (ninS ne255 nin0) (ninS (own_ne_lo f49.ltb (Nat.le_of_eq gb186.symm)) nin0)).ext E206).keep K216 (ninS ne255 (ninS ne256 nin0)) (ninS (own_ne_lo f49.ltb (Nat.le_of_eq gb186.symm)) (ninS (own_ne_lo (Nat.lt_of_lt_of_le f49.ltb E186.1) f197) nin0)))
  have ne258 : b1 ≠ o218 := (own_altne f219 ne256 (Nat.lt_of_lt_of_le (Nat.lt_of_lt_of_le (Nat.lt_of_lt_of_le (Nat.lt_of_lt_of_le (Nat.lt_of_lt_of_le (Nat.lt_of_lt_of_le (Nat.lt_of_lt_of_le A1.lt K7.1) E19.1) K28.1) K45.1) E186.1) K194.1) E206.1))
  have ne259 : o47 ≠ o218 := (own_altne f219 (own_ne_lo (Nat.lt_of_lt_of_le f49.ltb E186.1) f197) (Nat.lt_of_lt_of_le (Nat.lt_of_lt_of_le (Nat.lt_of_lt_of_le f49.ltb E186.1) K194.1) E206.1))
  have F260 := ((F257.keep K232 (ninS ne258 (ninS ne255 nin0)) (ninS ne259 (ninS (own_ne_lo f49.ltb (Nat.le_of_eq gb186.symm)) nin0))).keep K239 nin0 nin0)
  have F261 := ((((f50.ext E186).keep K194 (ninS ne255 nin0)).ext E206).keep K216 (ninS ne255 (ninS ne256 nin0)))
  have F262 := ((F261.keep K232 (ninS ne258 (ninS ne255 nin0))).keep K239 nin0)
  have ne263 : b1 ≠ o241 := (own_ne_lo (Nat.lt_of_lt_of_le (Nat.lt_of_lt_of_le (Nat.lt_of_lt_of_le (Nat.lt_of_lt_of_le (Nat.lt_of_lt_of_le (Nat.lt_of_lt_of_le (Nat.lt_of_lt_of_le (Nat.lt_of_lt_of_le (Nat.lt_of_lt_of_le A1.lt K7.1) E19.1) K28.1) K45.1) E186.1) K194.1) E206.1) K216.1) K232.1) f243)
  have ne264 : b1 ≠ o242 := (own_ne_lo (Nat.lt_of_lt_of_le (Nat.lt_of_lt_of_le (Nat.lt_of_lt_of_le (Nat.lt_of_lt_of_le (Nat.lt_of_lt_of_le (Nat.lt_of_lt_of_le (Nat.lt_of_lt_of_le (Nat.lt_of_lt_of_le (Nat.lt_of_lt_of_le A1.lt K7.1) E19.1) K28.1) K45.1) E186.1) K194.1) E206.1) K216.1) K232.1) f244)
  have F265 := (F238.keep K239 all0)
  have F267 := ((((F46.keep K45).ext E186).keep K194).ext E206)
  have F268 := (((F267.keep K216).keep K232).keep K239)
  obtain ⟨_, T266, L266, X266, hQ266, st266⟩ := own_vc X239 hx hZ206 hown206 (ow hw 201) (ow hw 77) (ow hw 79) (ow hw 78) F268 (rm11_43 l Z a0 hw b1 o47 (((([] : List Int32) ++ cL0) ++ cs3)) ((13 : Int32)) ((16 : Int32)) o241 o242 (((([] : List Int32) ++ cL3) ++ ([(48 + ci4)] : List Int32))) ((8 : Int32)) ((21 : Int32)) ((34 : Int32)) G1 G3 T239.heap n0 F265 F260 F262 f245 O2 P5 g2 (Ne.symm ne263) (Ne.symm ne264) O4 rG3 Sas SHI SLO (by (repeat' apply And.intro) <;> decide)) (ow hw 80) (ow hw 60) rfl (g := (mkF m 46 #[vR ra0, vR ra1, vI ci4, vR ra5, vN] [.ref o241, .ref b1, .ref ra0])) rfl (zs hml) (argsL := [.ref o241]) (rest := [.ref ra0]) (lenOf pd_22 rfl) rfl (hb hby d35_46) (W := 1) rfl
  obtain ⟨o269, rfl, Nq266, K266, f270, f271, f272⟩ := hQ266
  have N266 := Fr.app N239 Nq266
  have g273 : n0 ≤ o269 := Nat.le_trans (own_osz F265) f270
  have F275 := (Nat.le_trans F248 K239.1)
  have z274 : h0.size ≤ o269 := Nat.le_trans F275 f270
  have ch276 := CHr.keep K266 (allS (Safe.exa hZ206.alike F268 (by decide) (by decide)) all0) CH252.1
  have CH277 := CHr.trans CH252 ch276
  have sf278 := Safe.keep K266 (allS (Safe.exa hZ206.alike F268 (by decide) (by decide)) all0) CH252.1 (Safe.new f270)
  refine ot T266 (mkF m 49 #[vR ra0, vR ra1, vI ci4, vR ra5, vN] [.ref b1, .ref ra0]) st266 ?_
  have F280 := (Nat.le_trans (Nat.le_trans (Nat.le_trans (Nat.le_trans hk206 K216.1) K232.1) K239.1) K266.1)
  have F281 := (Nat.le_trans F275 K266.1)
  obtain ⟨l279, T279, h279, k279, lb279, lk279, X279, e279, E279, hS279, hk279, hZ279, hown279, Ex279, Fc279, Fv279, Av279, la279, lz279, ch279, Lt279, sf279, st279⟩ := ldcCH X266 hx hZ206 hown206 (ow hw 203) (own_wS hw) rfl hS206 F280 (own_EW hw) (by decide) CH277.1 (vs := [.int 58, .int 32]) (z := (2 : Int32)) (by decide) (by decide) (by decide) (g := (mkF m 49 #[vR ra0, vR ra1, vI ci4, vR ra5, vN] [.ref b1, .ref ra0])) rfl (hb hby d35_49) (n := 8) (by decide) (by decide) (lb rfl) (lb rfl)
  have CH282 := CHr.trans CH277 ch279
  have Ay279 : Arv Z h279 lb279 lk279 .byte (2 : Int32) (own_by ([58, 32] : List Int32)) (.int 0) := Av279
  refine og T279 (mkF m 51 #[vR ra0, vR ra1, vI ci4, vR ra5, vN] [.ref l279, .ref b1, .ref ra0]) st279 ?_
  have hp283 : ∀ c ∈ ([58, 32] : List Int32), ¬ c < 0 ∧ ¬ (255 : Int32) < c := own_hpl _ rfl
  have S284 : own_st Z h279 l279 lb279 ([58, 32] : List Int32) (2 : Int32) := own_stL Ex279 Fv279 (by decide) Fc279 Ay279 hp283
  have F285 := (f271.ext E279)
  have F286 := (f272.ext E279)
  have ne287 : b1 ≠ o269 := (own_ne_lo (Nat.lt_of_lt_of_le (Nat.lt_of_lt_of_le (Nat.lt_of_lt_of_le (Nat.lt_of_lt_of_le (Nat.lt_of_lt_of_le (Nat.lt_of_lt_of_le (Nat.lt_of_lt_of_le (Nat.lt_of_lt_of_le (Nat.lt_of_lt_of_le (Nat.lt_of_lt_of_le A1.lt K7.1) E19.1) K28.1) K45.1) E186.1) K194.1) E206.1) K216.1) K232.1) K239.1) f270)
  have ne288 : lb279 ≠ b1 := (Ne.symm (own_ne_arv ((F268.keep K266).ext E279) (ow hw 59) Ay279))
  have F289 := ((F265.keep K266 (allS g2 all0)).ext E279)
  have F291 := ((F268.keep K266).ext E279)
  obtain ⟨_, T290, L290, X290, hQ290, st290⟩ := own_vc X279 hx hZ279 hown279 (ow hw 201) (ow hw 77) (ow hw 79) (ow hw 78) F291 (rm11_15 l Z a0 hw b1 o269 ((((([] : List Int32) ++ cL0) ++ cs3) ++ ((([] : List Int32) ++ cL3) ++ ([(48 + ci4)] : List Int32)))) ((21 : Int32)) ((34 : Int32)) l279 lb279 (([58, 32] : List Int32)) ((2 : Int32)) ((23 : Int32)) G1 G3 h279 n0 F289 F285 F286 S284 O2 P5 g273 ne287 O4 rG3 Sas SHI SLO g2 (ne_exa Ex279 ((F268.keep K266).ext E279) (by decide)) ne288 (Ne.symm (sf279 o269 (CHr.safe ch279 f271.ltb sf278)).2) (by (repeat' apply And.intro) <;> decide)) (ow hw 80) (ow hw 60) e279 (g := (mkF m 51 #[vR ra0, vR ra1, vI ci4, vR ra5, vN] [.ref l279, .ref b1, .ref ra0])) rfl (zs hml) (argsL := [.ref l279]) (rest := [.ref ra0]) (lenOf pd_22 rfl) rfl (hb hby d35_51) (W := 1) rfl
  obtain ⟨o292, rfl, Nq290, K290, f293, f294, f295⟩ := hQ290
  have N290 := Fr.app N266 Nq290
  have g296 : n0 ≤ o292 := own_altge f293 g273 (own_osz F289)
  have F298 := (Nat.le_trans F281 E279.1)
  have z297 : h0.size ≤ o292 := own_altge f293 z274 F298
  have ch299 := CHr.keep K290 (allS (Safe.exa hZ279.alike F291 (by decide) (by decide)) (allS (CHr.safe ch279 f271.ltb sf278) all0)) CH282.1
  have CH300 := CHr.trans CH282 ch299
  have F302 := (CHr.safe ch299 (Nat.lt_of_lt_of_le f271.ltb E279.1) (CHr.safe ch279 f271.ltb sf278))
  have sf301 := own_alt (P := fun z => Safe Z own_EL _ _ z) f293 F302 (fun q => Safe.keep K290 (allS (Safe.exa hZ279.alike F291 (by decide) (by decide)) (allS (CHr.safe ch279 f271.ltb sf278) all0)) CH282.1 (Safe.new q))
  refine og T290 (mkF m 55 #[vR ra0, vR ra1, vI ci4, vR ra5, vN] [.ref ra5, .ref b1, .ref ra0]) (fun _ k => st290.trans (qa X290 hx hby d35_54 rfl rfl rfl k)) ?_
  have F303 := ((((S_ra5.ext E1).keep K7 (ninS (own_ne_lo S_ra5.lt (Nat.le_of_eq gb1.symm)) nin0) (ninS (own_ne_lo S_ra5.ltb (Nat.le_of_eq gb1.symm)) nin0)).ext E19).keep K28 (ninS (own_ne_lo S_ra5.lt (Nat.le_of_eq gb1.symm)) (ninS (own_ne_lo (Nat.lt_of_lt_of_le S_ra5.lt E1.1) f10) nin0)) (ninS (own_ne_lo S_ra5.ltb (Nat.le_of_eq gb1.symm)) (ninS (own_ne_lo (Nat.lt_of_lt_of_le S_ra5.ltb E1.1) f10) nin0)))
  have ne304 : ra5 ≠ o30 := (own_altne f31 (own_ne_lo (Nat.lt_of_lt_of_le S_ra5.lt E1.1) f10) (Nat.lt_of_lt_of_le (Nat.lt_of_lt_of_le (Nat.lt_of_lt_of_le S_ra5.lt E1.1) K7.1) E19.1))
  have ne305 : ra6 ≠ o30 := (own_altne f31 (own_ne_lo (Nat.lt_of_lt_of_le S_ra5.ltb E1.1) f10) (Nat.lt_of_lt_of_le (Nat.lt_of_lt_of_le (Nat.lt_of_lt_of_le S_ra5.ltb E1.1) K7.1) E19.1))
  have ne306 : ra5 ≠ b186 := (own_ne_lo (Nat.lt_of_lt_of_le (Nat.lt_of_lt_of_le (Nat.lt_of_lt_of_le (Nat.lt_of_lt_of_le (Nat.lt_of_lt_of_le S_ra5.lt E1.1) K7.1) E19.1) K28.1) K45.1) (Nat.le_of_eq gb186.symm))
  have ne307 : ra6 ≠ b186 := (own_ne_lo (Nat.lt_of_lt_of_le (Nat.lt_of_lt_of_le (Nat.lt_of_lt_of_le (Nat.lt_of_lt_of_le (Nat.lt_of_lt_of_le S_ra5.ltb E1.1) K7.1) E19.1) K28.1) K45.1) (Nat.le_of_eq gb186.symm))
  have F308 := ((((F303.keep K45 (ninS (own_ne_lo S_ra5.lt (Nat.le_of_eq gb1.symm)) (ninS ne304 nin0)) (ninS (own_ne_lo S_ra5.ltb (Nat.le_of_eq gb1.symm)) (ninS ne305 nin0))).ext E186).keep K194 (ninS ne306 nin0) (ninS ne307 nin0)).ext E206)
  have ne309 : ra5 ≠ o195 := (own_ne_lo (Nat.lt_of_lt_of_le (Nat.lt_of_lt_of_le (Nat.lt_of_lt_of_le (Nat.lt_of_lt_of_le (Nat.lt_of_lt_of_le (Nat.lt_of_lt_of_le S_ra5.lt E1.1) K7.1) E19.1) K28.1) K45.1) E186.1) f197)
  have ne310 : ra6 ≠ o195 := (own_ne_lo (Nat.lt_of_lt_of_le (Nat.lt_of_lt_of_le (Nat.lt_of_lt_of_le (Nat.lt_of_lt_of_le (Nat.lt_of_lt_of_le (Nat.lt_of_lt_of_le S_ra5.ltb E1.1) K7.1) E19.1) K28.1) K45.1) E186.1) f197)
  have ne311 : ra5 ≠ o218 := (own_altne f219 ne309 (Nat.lt_of_lt_of_le (Nat.lt_of_lt_of_le (Nat.lt_of_lt_of_le (Nat.lt_of_lt_of_le (Nat.lt_of_lt_of_le (Nat.lt_of_lt_of_le (Nat.lt_of_lt_of_le (Nat.lt_of_lt_of_le S_ra5.lt E1.1) K7.1) E19.1) K28.1) K45.1) E186.1) K194.1) E206.1))
  have ne312 : ra6 ≠ o218 := (own_altne f219 ne310 (Nat.lt_of_lt_of_le (Nat.lt_of_lt_of_le (Nat.lt_of_lt_of_le (Nat.lt_of_lt_of_le (Nat.lt_of_lt_of_le (Nat.lt_of_lt_of_le (Nat.lt_of_lt_of_le (Nat.lt_of_lt_of_le S_ra5.ltb E1.1) K7.1) E19.1) K28.1) K45.1) E186.1) K194.1) E206.1))
  have F313 := ((((F308.keep K216 (ninS ne306 (ninS ne309 nin0)) (ninS ne307 (ninS ne310 nin0))).keep K232 (ninS ne311 (ninS ne306 nin0)) (ninS ne312 (ninS ne307 nin0))).keep K239 nin0 nin0).keep K266 (ninS (own_ne_lo S_ra5.lt (Nat.le_of_eq gb1.symm)) nin0) (ninS (own_ne_lo S_ra5.ltb (Nat.le_of_eq gb1.symm)) nin0))
  have ne314 : ra5 ≠ o269 := (own_ne_lo (Nat.lt_of_lt_of_le (Nat.lt_of_lt_of_le (Nat.lt_of_lt_of_le (Nat.lt_of_lt_of_le (Nat.lt_of_lt_of_le (Nat.lt_of_lt_of_le (Nat.lt_of_lt_of_le (Nat.lt_of_lt_of_le (Nat.lt_of_lt_of_le (Nat.lt_of_lt_of_le (Nat.lt_of_lt_of_le S_ra5.lt E1.1) K7.1) E19.1) K28.1) K45.1) E186.1) K194.1) E206.1) K216.1) K232.1) K239.1) f270)
  have ne315 : ra6 ≠ o269 := (own_ne_lo (Nat.lt_of_lt_of_le (Nat.lt_of_lt_of_le (Nat.lt_of_lt_of_le (Nat.lt_of_lt_of_le (Nat.lt_of_lt_of_le (Nat.lt_of_lt_of_le (Nat.lt_of_lt_of_le (Nat.lt_of_lt_of_le (Nat.lt_of_lt_of_le (Nat.lt_of_lt_of_le (Nat.lt_of_lt_of_le S_ra5.ltb E1.1) K7.1) E19.1) K28.1) K45.1) E186.1) K194.1) E206.1) K216.1) K232.1) K239.1) f270)
  have F316 := ((F313.ext E279).keep K290 (ninS (own_ne_lo S_ra5.lt (Nat.le_of_eq gb1.symm)) (ninS ne314 nin0)) (ninS (own_ne_lo S_ra5.ltb (Nat.le_of_eq gb1.symm)) (ninS ne315 nin0)))
  have F317 := (F289.keep K290 (allS g2 (allS g273 all0)))
  have F319 := (F291.keep K290)
  obtain ⟨_, T318, L318, X318, hQ318, st318⟩ := own_vc X290 hx hZ279 hown279 (ow hw 201) (ow hw 77) (ow hw 79) (ow hw 78) F319 (rm11_43 l Z a0 hw b1 o292 (((((([] : List Int32) ++ cL0) ++ cs3) ++ ((([] : List Int32) ++ cL3) ++ ([(48 + ci4)] : List Int32))) ++ ([58, 32] : List Int32))) ((23 : Int32)) ((34 : Int32)) ra5 ra6 cs7 ((33 : Int32)) ((56 : Int32)) ((70 : Int32)) G1 G3 T290.heap n0 F317 f294 f295 F316 O2 P5 g2 (own_ne_lo S_ra5.lt (Nat.le_of_eq gb1.symm)) (own_ne_lo S_ra5.ltb (Nat.le_of_eq gb1.symm)) O4 rG3 Sas SHI SLO (by (repeat' apply And.intro) <;> decide)) (ow hw 80) (ow hw 60) rfl (g := (mkF m 55 #[vR ra0, vR ra1, vI ci4, vR ra5, vN] [.ref ra5, .ref b1, .ref ra0])) rfl (zs hml) (argsL := [.ref ra5]) (rest := [.ref ra0]) (lenOf pd_22 rfl) rfl (hb hby d35_55) (W := 1) rfl
  obtain ⟨o320, rfl, Nq318, K318, f321, f322, f323⟩ := hQ318
  have N318 := Fr.app N290 Nq318
  have g324 : n0 ≤ o320 := Nat.le_trans (own_osz F317) f321
  have F326 := (Nat.le_trans F298 K290.1)
  have z325 : h0.size ≤ o320 := Nat.le_trans F326 f321
  have ch327 := CHr.keep K318 (allS (Safe.exa hZ279.alike F319 (by decide) (by decide)) all0) CH300.1
  have CH328 := CHr.trans CH300 ch327
  have sf329 := Safe.keep K318 (allS (Safe.exa hZ279.alike F319 (by decide) (by decide)) all0) CH300.1 (Safe.new f321)
  refine ot T318 (mkF m 58 #[vR ra0, vR ra1, vI ci4, vR ra5, vN] [.ref b1, .ref ra0]) st318 ?_
  have F330 := (F317.keep K318 (allS g2 all0))
  have F332 := (F319.keep K318)
  obtain ⟨_, T331, L331, X331, hQ331, st331⟩ := own_vc X318 hx hZ279 hown279 (ow hw 204) (ow hw 149) (ow hw 151) (ow hw 150) F332 (rm24_53 l Z a0 hw b1 o320 ((((((([] : List Int32) ++ cL0) ++ cs3) ++ ((([] : List Int32) ++ cL3) ++ ([(48 + ci4)] : List Int32))) ++ ([58, 32] : List Int32)) ++ cs7)) ((56 : Int32)) ((70 : Int32)) ((56 : Int32)) G1 T318.heap n0 F330 f322 f323 O2 P5 (by decide : ¬ ((56 : Int32) = (70 : Int32))) (by decide : ¬ ((56 : Int32) < (0 : Int32))) (by decide : ¬ (((56 : Int32) - (0 : Int32)) < (0 : Int32))) (by decide : ((56 : Int32) - (0 : Int32)).toNatClampNeg ≤ 400) (by decide : ((56 : Int32) - (0 : Int32)) < ((70 : Int32) - (0 : Int32))) (by decide : ((56 : Int32) - (0 : Int32)).toNatClampNeg ≤ (70 : Int32).toNatClampNeg) (by decide : (0 : Int32).toNatClampNeg + ((56 : Int32) - (0 : Int32)).toNatClampNeg ≤ ((56 : Int32) - (0 : Int32)).toNatClampNeg) (by decide : (56 : Int32).toNatClampNeg ≤ ((56 : Int32) - (0 : Int32)).toNatClampNeg) (by decide : ((56 : Int32) - (0 : Int32)) = (56 : Int32)) (by decide : ¬ (((56 : Int32) <<< ((1 : Int32) &&& 31)) = ((70 : Int32) <<< ((1 : Int32) &&& 31)))) (by decide : ¬ (((56 : Int32) <<< ((1 : Int32) &&& 31)) < (0 : Int32))) (by decide : ¬ ((((56 : Int32) <<< ((1 : Int32) &&& 31)) - (0 : Int32)) < (0 : Int32))) (by decide : (((56 : Int32) <<< ((1 : Int32) &&& 31)) - (0 : Int32)).toNatClampNeg ≤ 400) (by decide : (((56 : Int32) <<< ((1 : Int32) &&& 31)) - (0 : Int32)) < (((70 : Int32) <<< ((1 : Int32) &&& 31)) - (0 : Int32))) (by decide : (((56 : Int32) <<< ((1 : Int32) &&& 31)) - (0 : Int32)).toNatClampNeg ≤ ((70 : Int32) <<< ((1 : Int32) &&& 31)).toNatClampNeg) (by decide : (0 : Int32).toNatClampNeg + (((56 : Int32) <<< ((1 : Int32) &&& 31)) - (0 : Int32)).toNatClampNeg ≤ (((56 : Int32) <<< ((1 : Int32) &&& 31)) - (0 : Int32)).toNatClampNeg) (by decide : (2 * (56 : Int32).toNatClampNeg) ≤ (((56 : Int32) <<< ((1 : Int32) &&& 31)) - (0 : Int32)).toNatClampNeg) (by decide : (((56 : Int32) <<< ((1 : Int32) &&& 31)) - (0 : Int32)) = ((56 : Int32) <<< ((1 : Int32) &&& 31)))) (ow hw 152) (ow hw 60) rfl (g := (mkF m 58 #[vR ra0, vR ra1, vI ci4, vR ra5, vN] [.ref b1, .ref ra0])) rfl (zs hml) (argsL := []) (rest := [.ref ra0]) (lenOf pd_30 rfl) rfl (hb hby d35_58) (W := 1) rfl
  obtain ⟨o333, o334, rfl, Nq331, K331, f335, f336, f337⟩ := hQ331
  have N331 := Fr.app N318 Nq331
  have g338 : n0 ≤ o333 := Nat.le_trans (own_osz F330) f335
  have F340 := (Nat.le_trans F326 K318.1)
  have z339 : h0.size ≤ o333 := Nat.le_trans F340 f335
  have g341 : n0 ≤ o334 := Nat.le_trans (own_osz F330) f336
  have z342 : h0.size ≤ o334 := Nat.le_trans F340 f336
  have ch343 := CHr.keep K331 all0 CH328.1
  have CH344 := CHr.trans CH328 ch343
  have sf345 := Safe.keep K331 all0 CH328.1 (Safe.new f335)
  have sf346 := Safe.keep K331 all0 CH328.1 (Safe.new f336)
  refine og T331 (mkF m 63 #[vR ra0, vR ra1, vI ci4, vR ra5, vN] [.null, .ref o333, .ref ra0]) (fun _ k => st331.trans (XS.aload X331.here hx rfl (hb hby d35_61) rfl rfl k)) ?_
  have F347 := ((((U_ra0.ext E1).keep K7 (ninS (own_ne_lo A'.lt (Nat.le_of_eq gb1.symm)) nin0)).ext E19).keep K28 (ninS (own_ne_lo A'.lt (Nat.le_of_eq gb1.symm)) (ninS (own_ne_lo (Nat.lt_of_lt_of_le A'.lt E1.1) f10) nin0)))
  have ne348 : ra0 ≠ o30 := (own_altne f31 (own_ne_lo (Nat.lt_of_lt_of_le A'.lt E1.1) f10) (Nat.lt_of_lt_of_le (Nat.lt_of_lt_of_le (Nat.lt_of_lt_of_le A'.lt E1.1) K7.1) E19.1))
  have ne349 : ra0 ≠ b186 := (own_ne_lo (Nat.lt_of_lt_of_le (Nat.lt_of_lt_of_le (Nat.lt_of_lt_of_le (Nat.lt_of_lt_of_le (Nat.lt_of_lt_of_le A'.lt E1.1) K7.1) E19.1) K28.1) K45.1) (Nat.le_of_eq gb186.symm))
  have F350 := ((((F347.keep K45 (ninS (own_ne_lo A'.lt (Nat.le_of_eq gb1.symm)) (ninS ne348 nin0))).ext E186).keep K194 (ninS ne349 nin0)).ext E206)
  have ne351 : ra0 ≠ o195 := (own_ne_lo (Nat.lt_of_lt_of_le (Nat.lt_of_lt_of_le (Nat.lt_of_lt_of_le (Nat.lt_of_lt_of_le (Nat.lt_of_lt_of_le (Nat.lt_of_lt_of_le A'.lt E1.1) K7.1) E19.1) K28.1) K45.1) E186.1) f197)
  have ne352 : ra0 ≠ o218 := (own_altne f219 ne351 (Nat.lt_of_lt_of_le (Nat.lt_of_lt_of_le (Nat.lt_of_lt_of_le (Nat.lt_of_lt_of_le (Nat.lt_of_lt_of_le (Nat.lt_of_lt_of_le (Nat.lt_of_lt_of_le (Nat.lt_of_lt_of_le A'.lt E1.1) K7.1) E19.1) K28.1) K45.1) E186.1) K194.1) E206.1))
  have F353 := ((((F350.keep K216 (ninS ne349 (ninS ne351 nin0))).keep K232 (ninS ne352 (ninS ne349 nin0))).keep K239 nin0).keep K266 (ninS (own_ne_lo A'.lt (Nat.le_of_eq gb1.symm)) nin0))
  have ne354 : ra0 ≠ o269 := (own_ne_lo (Nat.lt_of_lt_of_le (Nat.lt_of_lt_of_le (Nat.lt_of_lt_of_le (Nat.lt_of_lt_of_le (Nat.lt_of_lt_of_le (Nat.lt_of_lt_of_le (Nat.lt_of_lt_of_le (Nat.lt_of_lt_of_le (Nat.lt_of_lt_of_le (Nat.lt_of_lt_of_le (Nat.lt_of_lt_of_le A'.lt E1.1) K7.1) E19.1) K28.1) K45.1) E186.1) K194.1) E206.1) K216.1) K232.1) K239.1) f270)
  have F355 := ((((F353.ext E279).keep K290 (ninS (own_ne_lo A'.lt (Nat.le_of_eq gb1.symm)) (ninS ne354 nin0))).keep K318 (ninS (own_ne_lo A'.lt (Nat.le_of_eq gb1.symm)) nin0)).keep K331 nin0)
  have F356 := ((((A'.ext E1).keep K7).ext E19).keep K28)
  have F357 := ((((F356.keep K45).ext E186).keep K194).ext E206)
  have F358 := ((((F357.keep K216).keep K232).keep K239).keep K266)
  have F359 := ((((F358.ext E279).keep K290).keep K318).keep K331)
  have F360 := ((((B'.ext E1).keep K7 (ninS (own_ne_lo A'.lt (Nat.le_of_eq gb1.symm)) nin0)).ext E19).keep K28 (ninS (own_ne_lo A'.lt (Nat.le_of_eq gb1.symm)) (ninS (own_ne_lo (Nat.lt_of_lt_of_le A'.lt E1.1) f10) nin0)))
  have F361 := ((((F360.keep K45 (ninS (own_ne_lo A'.lt (Nat.le_of_eq gb1.symm)) (ninS ne348 nin0))).ext E186).keep K194 (ninS ne349 nin0)).ext E206)
  have F362 := ((((F361.keep K216 (ninS ne349 (ninS ne351 nin0))).keep K232 (ninS ne352 (ninS ne349 nin0))).keep K239 nin0).keep K266 (ninS (own_ne_lo A'.lt (Nat.le_of_eq gb1.symm)) nin0))
  have F363 := ((((F362.ext E279).keep K290 (ninS (own_ne_lo A'.lt (Nat.le_of_eq gb1.symm)) (ninS ne354 nin0))).keep K318 (ninS (own_ne_lo A'.lt (Nat.le_of_eq gb1.symm)) nin0)).keep K331 nin0)
  have F364 := ((((C'.ext E1).keep K7 (ninS (own_ne_lo A'.lt (Nat.le_of_eq gb1.symm)) nin0)).ext E19).keep K28 (ninS (own_ne_lo A'.lt (Nat.le_of_eq gb1.symm)) (ninS (own_ne_lo (Nat.lt_of_lt_of_le A'.lt E1.1) f10) nin0)))
  have F365 := ((((F364.keep K45 (ninS (own_ne_lo A'.lt (Nat.le_of_eq gb1.symm)) (ninS ne348 nin0))).ext E186).keep K194 (ninS ne349 nin0)).ext E206)
  have F366 := ((((F365.keep K216 (ninS ne349 (ninS ne351 nin0))).keep K232 (ninS ne352 (ninS ne349 nin0))).keep K239 nin0).keep K266 (ninS (own_ne_lo A'.lt (Nat.le_of_eq gb1.symm)) nin0))
  have F367 := ((((F366.ext E279).keep K290 (ninS (own_ne_lo A'.lt (Nat.le_of_eq gb1.symm)) (ninS ne354 nin0))).keep K318 (ninS (own_ne_lo A'.lt (Nat.le_of_eq gb1.symm)) nin0)).keep K331 nin0)
  have F368 := ((((D'.ext E1).keep K7 (ninS (own_ne_lo A'.lt (Nat.le_of_eq gb1.symm)) nin0)).ext E19).keep K28 (ninS (own_ne_lo A'.lt (Nat.le_of_eq gb1.symm)) (ninS (own_ne_lo (Nat.lt_of_lt_of_le A'.lt E1.1) f10) nin0)))
  have F369 := ((((F368.keep K45 (ninS (own_ne_lo A'.lt (Nat.le_of_eq gb1.symm)) (ninS ne348 nin0))).ext E186).keep K194 (ninS ne349 nin0)).ext E206)
  have F370 := ((((F369.keep K216 (ninS ne349 (ninS ne351 nin0))).keep K232 (ninS ne352 (ninS ne349 nin0))).keep K239 nin0).keep K266 (ninS (own_ne_lo A'.lt (Nat.le_of_eq gb1.symm)) nin0))
  have F371 := ((((F370.ext E279).keep K290 (ninS (own_ne_lo A'.lt (Nat.le_of_eq gb1.symm)) (ninS ne354 nin0))).keep K318 (ninS (own_ne_lo A'.lt (Nat.le_of_eq gb1.symm)) nin0)).keep K331 nin0)
  have F372 := ((((E'.ext E1).keep K7 (ninS (own_ne_lo A'.lt (Nat.le_of_eq gb1.symm)) nin0)).ext E19).keep K28 (ninS (own_ne_lo A'.lt (Nat.le_of_eq gb1.symm)) (ninS (own_ne_lo (Nat.lt_of_lt_of_le A'.lt E1.1) f10) nin0)))
  have F373 := ((((F372.keep K45 (ninS (own_ne_lo A'.lt (Nat.le_of_eq gb1.symm)) (ninS ne348 nin0))).ext E186).keep K194 (ninS ne349 nin0)).ext E206)
  have F374 := ((((F373.keep K216 (ninS ne349 (ninS ne351 nin0))).keep K232 (ninS ne352 (ninS ne349 nin0))).keep K239 nin0).keep K266 (ninS (own_ne_lo A'.lt (Nat.le_of_eq gb1.symm)) nin0))
  have F375 := ((((F374.ext E279).keep K290 (ninS (own_ne_lo A'.lt (Nat.le_of_eq gb1.symm)) (ninS ne354 nin0))).keep K318 (ninS (own_ne_lo A'.lt (Nat.le_of_eq gb1.symm)) nin0)).keep K331 nin0)
  have F376 := ((((F'.ext E1).keep K7 (ninS (own_ne_lo A'.lt (Nat.le_of_eq gb1.symm)) nin0)).ext E19).keep K28 (ninS (own_ne_lo A'.lt (Nat.le_of_eq gb1.symm)) (ninS (own_ne_lo (Nat.lt_of_lt_of_le A'.lt E1.1) f10) nin0)))
  have F377 := ((((F376.keep K45 (ninS (own_ne_lo A'.lt (Nat.le_of_eq gb1.symm)) (ninS ne348 nin0))).ext E186).keep K194 (ninS ne349 nin0)).ext E206)
  have F378 := ((((F377.keep K216 (ninS ne349 (ninS ne351 nin0))).keep K232 (ninS ne352 (ninS ne349 nin0))).keep K239 nin0).keep K266 (ninS (own_ne_lo A'.lt (Nat.le_of_eq gb1.symm)) nin0))
  have F379 := ((((F378.ext E279).keep K290 (ninS (own_ne_lo A'.lt (Nat.le_of_eq gb1.symm)) (ninS ne354 nin0))).keep K318 (ninS (own_ne_lo A'.lt (Nat.le_of_eq gb1.symm)) nin0)).keep K331 nin0)
  have F380 := ((((G'.ext E1).keep K7 (ninS (own_ne_lo A'.lt (Nat.le_of_eq gb1.symm)) nin0)).ext E19).keep K28 (ninS (own_ne_lo A'.lt (Nat.le_of_eq gb1.symm)) (ninS (own_ne_lo (Nat.lt_of_lt_of_le A'.lt E1.1) f10) nin0)))
  have F381 := ((((F380.keep K45 (ninS (own_ne_lo A'.lt (Nat.le_of_eq gb1.symm)) (ninS ne348 nin0))).ext E186).keep K194 (ninS ne349 nin0)).ext E206)
  have F382 := ((((F381.keep K216 (ninS ne349 (ninS ne351 nin0))).keep K232 (ninS ne352 (ninS ne349 nin0))).keep K239 nin0).keep K266 (ninS (own_ne_lo A'.lt (Nat.le_of_eq gb1.symm)) nin0))
  have F383 := ((((F382.ext E279).keep K290 (ninS (own_ne_lo A'.lt (Nat.le_of_eq gb1.symm)) (ninS ne354 nin0))).keep K318 (ninS (own_ne_lo A'.lt (Nat.le_of_eq gb1.symm)) nin0)).keep K331 nin0)
  have F384 := (F330.keep K331 all0)
  obtain ⟨_, _, ⟨T385, L385, k385, n385⟩, -, X385, hs385, hg385, ⟨Lc385, hQ385, l385, y385, z385, ch385⟩, st385⟩ := X331.specialBackS hx (y := y44) rfl hown279 (mvT hZ279 (ow hw 214)) (mvT hZ279 (ow hw 215)) (mvT hZ279 (ow hw 218)) (by decide) (own_backSH (W := 0) (rm36_85 l Z a0 hw ra0 ((0 : Int32)) o333 o334 ((((((([] : List Int32) ++ cL0) ++ cs3) ++ ((([] : List Int32) ++ cL3) ++ ([(48 + ci4)] : List Int32))) ++ ([58, 32] : List Int32)) ++ cs7)) ((56 : Int32)) us up T331.heap n0 F384 F355 F359 F363 F367 F371 F375 F379 F383 f337 H' Sus rf_us Sup rf_up hl rus) hZ279 (ow hw 218) (ow hw 217) (lb rfl) (lb rfl) (own_EW hw) CH344.1 all0 (fun _ => ⟨Vm.MethodsKnown.alikeC hS279.1.alike (hKn rfl).1, Vm.FramesKnown.alikeC hS279.1.alike (hKn rfl).2⟩)) (g := (mkF m 63 #[vR ra0, vR ra1, vI ci4, vR ra5, vN] [.null, .ref o333, .ref ra0])) rfl (zs hml) (Steps.refl _) (a := ra0) (argsL := [.ref o333, .null]) (rest := []) (lenOf pd_31 rfl) rfl (lb rfl) (hb hby d35_63) (fun _ _ => ⟨rfl, rfl, (lb rfl), (lb rfl)⟩)
  dsimp only [Pt.U, Pt.locs, Pt.cells, Pt.slots] at X385 l385 y385 z385 st385 hQ385 hs385 hg385 ch385
  subst l385 y385 z385
  replace X385 := own_reb X385
  have F386 := (Nat.le_trans (Nat.le_trans (Nat.le_trans hk279 K290.1) K318.1) K331.1)
  obtain ⟨hZ385, hS385, hown385⟩ := own_after hZ279 hS279 rfl F386 hs385 hg385 hown279
  obtain ⟨rfl, Nq385, K385, f387, f388, f389, f390⟩ := hQ385
  have N385 := Fr.app N331 Nq385
  have CH391 := CHr.trans CH344 ch385
  refine ot T385 (mkF m 66 #[vR ra0, vR ra1, vI ci4, vR ra5, vN] []) st385 ?_
  have ne392 : ra0 ≠ o333 := (own_ne_lo (Nat.lt_of_lt_of_le (Nat.lt_of_lt_of_le (Nat.lt_of_lt_of_le (Nat.lt_of_lt_of_le (Nat.lt_of_lt_of_le (Nat.lt_of_lt_of_le (Nat.lt_of_lt_of_le (Nat.lt_of_lt_of_le (Nat.lt_of_lt_of_le (Nat.lt_of_lt_of_le (Nat.lt_of_lt_of_le (Nat.lt_of_lt_of_le (Nat.lt_of_lt_of_le (Nat.lt_of_lt_of_le (Nat.lt_of_lt_of_le A'.lt E1.1) K7.1) E19.1) K28.1) K45.1) E186.1) K194.1) E206.1) K216.1) K232.1) K239.1) K266.1) E279.1) K290.1) K318.1) f335)
  have ne393 : ra0 ≠ o334 := (own_ne_lo (Nat.lt_of_lt_of_le (Nat.lt_of_lt_of_le (Nat.lt_of_lt_of_le (Nat.lt_of_lt_of_le (Nat.lt_of_lt_of_le (Nat.lt_of_lt_of_le (Nat.lt_of_lt_of_le (Nat.lt_of_lt_of_le (Nat.lt_of_lt_of_le (Nat.lt_of_lt_of_le (Nat.lt_of_lt_of_le (Nat.lt_of_lt_of_le (Nat.lt_of_lt_of_le (Nat.lt_of_lt_of_le (Nat.lt_of_lt_of_le A'.lt E1.1) K7.1) E19.1) K28.1) K45.1) E186.1) K194.1) E206.1) K216.1) K232.1) K239.1) K266.1) E279.1) K290.1) K318.1) f336)
  have F394 := (f337.keep K385 (ninS (Ne.symm ne392) nin0) (ninS (Ne.symm ne393) nin0))
  have S395 : own_st Z T385.heap o333 o334 (((((([] : List Int32) ++ cL0) ++ cs3) ++ (own_lm ci4)) ++ ([58, 32] : List Int32)) ++ cs7) (own_ml ci4) := by rw [own_lmN hc58, own_mlN hc58]; exact F394
  have K399 := (((((Keep.refl h0 [ra0]).ext E1).trans K7 (allS (Or.inr z3) all0)).ext E19).trans K28 (allS (Or.inr z3) (allS (Or.inr z14) all0)))
  have K400 := ((((K399.trans K45 (allS (Or.inr z3) (allS (Or.inr z35) all0))).ext E186).trans K194 (allS (Or.inr z189) all0)).ext E206)
  have K401 := ((((K400.trans K216 (allS (Or.inr z189) (allS (Or.inr z201) all0))).trans K232 (allS (Or.inr z223) (allS (Or.inr z189) all0))).trans K239 all0).trans K266 (allS (Or.inr z3) all0))
  have K402 := ((((K401.ext E279).trans K290 (allS (Or.inr z3) (allS (Or.inr z274) all0))).trans K318 (allS (Or.inr z3) all0)).trans K331 all0)
  have KEEP := (K402.trans K385 (allS (Or.inl (List.mem_of_getElem? (i := 0) rfl)) all0))
  exact own_leaveW (s := s) (vm0 := T385.vm) X385 hS385 (Nat.le_refl _) hZ385 (own_EW hw) rfl CH391 hh hlk (v := none) (fun _ => rfl) (lb rfl) (lb rfl) (by exact ⟨o333, o334, rfl, N385, KEEP, z339, z342, f387, f388, f389, f390, S395⟩) (fun fs hr => X385.returnOut hx hret (hb hby d35_66) hr)
abbrev R34_90 : Room := { frames := 11, cells := 24, slots := 7670, locals := 162 }
def Q34_90 (Z : State) (ra0 ra1 ra2 : Addr) (cs3 : List Int32) (ci4 : Int32) (ra5 ra6 : Addr) (cs7 : List Int32) (ra8 ra9 : Addr) (cs10 : List Int32) (G1 : Int32) (G3 us up : Value) (dg : Addr) (kdg : ClassId) (h0 : Heap) (n0 : Nat) (v : Option Value) (h : Heap) (L : List Loc) : Prop := (∃ (b1 o15 o16 : Addr), v = some (.ref b1) ∧ Fr n0 L ∧ Keep h0 h [] ∧ h0.size ≤ b1 ∧ h0.size ≤ o15 ∧ h0.size ≤ o16 ∧ Exa Z h b1 cN7 ∧ Unt h b1 ∧ Fld Z h b1 cN3 "cause" "Ljava/lang/Throwable;" .null ∧ Fld Z h b1 cN3 "detailMessage" "Ljava/lang/String;" (.ref o15) ∧ Fld Z h b1 cN3 "suppressedExceptions" "Ljava/util/List;" up ∧ own_st Z h o15 o16 (((((([] : List Int32) ++ cL0) ++ cs3) ++ (own_lm ci4)) ++ ([58, 32] : List Int32)) ++ cs10) (own_ml ci4))
theorem rm34_90 l Z a0 (hw : HW Z a0) ra0 ra1 ra2 (cs3 : List Int32) (ci4 : Int32) ra5 ra6 (cs7 : List Int32) ra8 ra9 (cs10 : List Int32) (G1 : Int32) (G3 : Value) (us : Value) (up : Value) dg kdg h0 n0 (OLD : Old Z n0 h0) (A' : Exa Z h0 ra0 cN4) (B' : Fld Z h0 ra0 cN4 "document" "Ljava/lang/String;" (.ref ra1)) (S_ra1 : own_st Z h0 ra1 ra2 cs3 (1 : Int32)) (C' : Fld Z h0 ra0 cN4 "line" "I" (.int ci4)) (D' : Fld Z h0 ra0 cN4 "name" "Ljava/lang/String;" (.ref ra5)) (S_ra5 : own_st Z h0 ra5 ra6 cs7 (1 : Int32)) (S_ra8 : own_st Z h0 ra8 ra9 cs10 (33 : Int32)) (hk7 : ¬ ((9 : Int32) < ci4)) (O2 : Sta Z Z.heap cN1 "COMPACT_STRINGS" "Z" (.int G1)) (P5 : ¬ (G1 = (0 : Int32))) (O4 : Sta Z Z.heap cN5 "SIOOBE_FORMATTER" "Ljava/util/function/BiFunction;" G3) (rG3 : G3.isRef = true) (Sas : Sta Z Z.heap cN2 "$assertionsDisabled" "Z" (.int 1)) (SHI : Sta Z Z.heap cN2 "HI_BYTE_SHIFT" "I" (.int 0)) (SLO : Sta Z Z.heap cN2 "LO_BYTE_SHIFT" "I" (.int 8)) (Sus : Sta Z Z.heap cN3 "UNASSIGNED_STACK" "[Ljava/lang/StackTraceElement;" us) (rf_us : us.isRef = true) (Sup : Sta Z Z.heap cN3 "SUPPRESSED_SENTINEL" "Ljava/util/List;" up) (rf_up : up.isRef = true) (hl : l.stackTraces = true) (rus : us.isRef = true) (SG0 : Sta Z Z.heap "java/lang/Integer" "DigitOnes" "[B" (.ref dg)) (VG0 : Arv Z Z.heap dg kdg .byte (100 : Int32) own_dig (.int 0)) :
  own_CW l Z true y50 prog_28_method_3_code 3 (some (.object cN7)) [] R34_90 #[.ref ra0, .ref ra8, .null] h0 [] (Q34_90 Z ra0 ra1 ra2 cs3 ci4 ra5 ra6 cs7 ra8 ra9 cs10 G1 G3 us up dg kdg h0 n0) := by
 refine own_entryW (plainFor_of_name pn_4) fun p e s m below meth c s₁ hx hby hml hown hnm hret hlk hZ hh hCH hSf hKn X0 e0 => ?_
 have N0 := Fr.nil n0
 have hS0 : s.Since s.vm h0.size := own_since s _
 have hk0 : h0.size ≤ h0.size := Nat.le_refl _
 have CH0 : CHr Z own_EL s.vm h0 s.vm h0 := CHr.refl hCH
 rw [ef_38_83 m ra0 ra8]
 obtain ⟨T1, h1, X1, e1, E1, A1, D1, U1, st1⟩ := newO X0 hx hZ hown (ow hw 192) (ow hw 193) (ow hw 194) e0 (g := (mkF m 0 #[vR ra0, vR ra8, vN] [])) rfl (hb hby d34_0) (lb rfl) (lb rfl)
 obtain ⟨b1, gb1⟩ : ∃ z, z = h0.size := ⟨_, rfl⟩
 rw [← gb1] at A1 D1 U1 st1
 have g2 : n0 ≤ b1 := Nat.le_trans (own_osz OLD) (Nat.le_of_eq gb1.symm)
 have z3 : h0.size ≤ b1 := Nat.le_trans (Nat.le_refl _) (Nat.le_of_eq gb1.symm)
 have ch4 := CHr.ext E1 CH0.1
 have CH5 := CHr.trans CH0 ch4
 have Uu1 : Unt h1 b1 := U1
 refine og T1 (mkF m 5 #[vR ra0, vR ra8, vN] [.ref ra0, .ref b1, .ref b1]) (fun _ k => st1 _ (XS.dup X1.here hx rfl (hb hby d34_3) rfl rfl (qa X1 hx hby d34_4 rfl rfl rfl k))) ?_
 have F6 := (B'.ext E1)
 obtain ⟨T7, X7, e7, st7⟩ := qf X1 hx hZ hown (ow hw 49) e1 F6 (g := (mkF m 5 #[vR ra0, vR ra8, vN] [.ref ra0, .ref b1, .ref b1])) rfl rfl hby d34_5
 refine og T7 (mkF m 9 #[vR ra0, vR ra8, vN] [.ref ra0, .ref ra1, .ref b1, .ref b1]) (fun _ k => st7 _ (qa X7 hx hby d34_8 rfl rfl rfl k)) ?_
 have F8 := (C'.ext E1)
 obtain ⟨T9, X9, e9, st9⟩ := qf X7 hx hZ hown (ow hw 51) e7 F8 (g := (mkF m 9 #[vR ra0, vR ra8, vN] [.ref ra0, .ref ra1, .ref b1, .ref b1])) rfl rfl hby d34_9
 refine og T9 (mkF m 14 #[vR ra0, vR ra8, vN] [.null, .ref ra8, .int ci4, .ref ra1, .ref b1, .ref b1]) (fun _ k => st9 _ (qa X9 hx hby d34_12 rfl rfl rfl (qa X9 hx hby d34_13 rfl rfl rfl k))) ?_
 have F10 := (S_ra1.ext E1)
 have F11 := (S_ra8.ext E1)
 have F12 := (OLD.ext E1)
 obtain ⟨_, _, ⟨T13, L13, k13, n13⟩, -, X13, hs13, hg13, ⟨Lc13, hQ13, l13, y13, z13, ch13⟩, st13⟩ := X9.specialBackS hx (y := y49) rfl hown (mvT hZ (ow hw 195)) (mvT hZ (ow hw 196)) (mvT hZ (ow hw 197)) (by decide) (own_backSH (W := 1) (rm35_67 l Z a0 hw b1 ra1 ra2 cs3 ci4 ra8 ra9 cs10 G1 G3 us up dg kdg h1 n0 F12 Uu1 A1 (D1 (Or.inl (ow hw 264)) (ty := (.object "java/lang/Object")) (by decide)) (D1 (Or.inl (ow hw 233)) (ty := (.object cN3)) (by decide)) (D1 (Or.inl (ow hw 265)) (ty := .int) (by decide)) (D1 (Or.inl (ow hw 263)) (ty := (.object cN1)) (by decide)) (D1 (Or.inl (ow hw 236)) (ty := (.array (.object "java/lang/StackTraceElement"))) (by decide)) (D1 (Or.inl (ow hw 239)) (ty := (.object "java/util/List")) (by decide)) F10 F11 hk7 O2 P5 O4 rG3 Sas SHI SLO g2 Sus rf_us Sup rf_up hl rus SG0 VG0) hZ (ow hw 197) (ow hw 194) (lb rfl) (lb rfl) (own_EW hw) CH5.1 all0 (fun _ => ⟨Vm.MethodsKnown.alikeC hS0.1.alike (hKn rfl).1, Vm.FramesKnown.alikeC hS0.1.alike (hKn rfl).2⟩)) (g := (mkF m 14 #[vR ra0, vR ra8, vN] [.null, .ref ra8, .int ci4, .ref ra1, .ref b1, .ref b1])) rfl (zs hml) (Steps.refl _) (a := b1) (argsL := [.ref ra1, .int ci4, .ref ra8, .null]) (rest := [.ref b1]) (lenOf pd_35 rfl) rfl (lb rfl) (hb hby d34_14) (fun _ _ => ⟨rfl, e9, (lb rfl), (lb rfl)⟩)
 dsimp only [Pt.U, Pt.locs, Pt.cells, Pt.slots] at X13 l13 y13 z13 st13 hQ13 hs13 hg13 ch13
 subst l13 y13 z13
 replace X13 := own_reb X13
 have F14 := (Nat.le_trans hk0 E1.1)
 obtain ⟨hZ13, hS13, hown13⟩ := own_after hZ hS0 e9 F14 hs13 hg13 hown
 obtain ⟨o15, o16, rfl, Nq13, K13, f17, f18, f19, f20, f21, f22, f23⟩ := hQ13
 have N13 := Fr.app N0 Nq13
 have g24 : n0 ≤ o15 := Nat.le_trans (own_osz F12) f17
 have F26 := (Nat.le_trans (Nat.le_refl _) E1.1)
 have z25 : h0.size ≤ o15 := Nat.le_trans F26 f17
 have g27 : n0 ≤ o16 := Nat.le_trans (own_osz F12) f18
 have z28 : h0.size ≤ o16 := Nat.le_trans F26 f18
 have CH29 := CHr.trans CH5 ch13
 refine ot T13 (mkF m 17 #[vR ra0, vR ra8, vN] [.ref b1]) st13 ?_
 have F30 := (A1.keep K13)
 have KEEP := (((Keep.refl h0 []).ext E1).trans K13 (allS (Or.inr z3) all0))
 exact own_leaveW (s := s) (vm0 := T13.vm) X13 hS13 (Nat.le_refl _) hZ13 (own_EW hw) rfl CH29 hh hlk (v := some (.ref b1)) (own_nr hret) (lb rfl) (lb rfl) (by exact ⟨b1, o15, o16, rfl, N13, KEEP, z3, z25, z28, F30, f19, f20, f21, f22, f23⟩) (own_ra X13 hx hret rfl rfl rfl (hb hby d34_17))
abbrev R8_12 : Room := { frames := 12, cells := 38, slots := 11006, locals := 176 }
def Q8_12 (Z : State) (ra0 : Addr) (ln : Int32) (sn bsn : Addr) (csn : List Int32) (sd bsd : Addr) (csd : List Int32) (sp bsp : Addr) (csp : List Int32) (sh bsh : Addr) (csh : List Int32) (G1 : Int32) (G3 us up : Value) (dg : Addr) (kdg : ClassId) (h0 : Heap) (n0 : Nat) (v : Option Value) (h : Heap) (L : List Loc) : Prop := (∃ (eq0 eq1 eq2 : Addr), v = some (.ref eq0) ∧ Fr n0 L ∧ Keep h0 h [] ∧ h0.size ≤ eq0 ∧ h0.size ≤ eq1 ∧ h0.size ≤ eq2 ∧ Exa Z h eq0 cN7 ∧ Unt h eq0 ∧ Fld Z h eq0 cN3 "cause" "Ljava/lang/Throwable;" .null ∧ Fld Z h eq0 cN3 "detailMessage" "Ljava/lang/String;" (.ref eq1) ∧ Fld Z h eq0 cN3 "suppressedExceptions" "Ljava/util/List;" up ∧ own_st Z h eq1 eq2 (((((([] : List Int32) ++ cL0) ++ csd) ++ (own_lm ln)) ++ ([58, 32] : List Int32)) ++ (((((([] : List Int32) ++ csp) ++ cL1) ++ csn) ++ cL2) ++ csh)) (own_ml ln))
abbrev C8_12 (ln : Int32) : Prop := (¬ ((9 : Int32) < ln))
theorem rm8_12 l Z a0 (hw : HW Z a0) ra0 (ln : Int32) sn bsn (csn : List Int32) sd bsd (csd : List Int32) sp bsp (csp : List Int32) sh bsh (csh : List Int32) (G1 : Int32) (G3 : Value) (us : Value) (up : Value) dg kdg h0 n0 (OLD : Old Z n0 h0) (A' : Exa Z h0 ra0 cN4) (S_sn : own_st Z h0 sn bsn csn (1 : Int32)) (S_sd : own_st Z h0 sd bsd csd (1 : Int32)) (S_sp : own_st Z h0 sp bsp csp (1 : Int32)) (S_sh : own_st Z h0 sh bsh csh (1 : Int32)) (B' : Fld Z h0 ra0 cN4 "name" "Ljava/lang/String;" (.ref sn)) (C' : Fld Z h0 ra0 cN4 "document" "Ljava/lang/String;" (.ref sd)) (D' : Fld Z h0 ra0 cN4 "line" "I" (.int ln)) (O2 : Sta Z Z.heap cN1 "COMPACT_STRINGS" "Z" (.int G1)) (P5 : ¬ (G1 = (0 : Int32))) (O4 : Sta Z Z.heap cN5 "SIOOBE_FORMATTER" "Ljava/util/function/BiFunction;" G3) (rG3 : G3.isRef = true) (Sas : Sta Z Z.heap cN2 "$assertionsDisabled" "Z" (.int 1)) (SHI : Sta Z Z.heap cN2 "HI_BYTE_SHIFT" "I" (.int 0)) (SLO : Sta Z Z.heap cN2 "LO_BYTE_SHIFT" "I" (.int 8)) (Sus : Sta Z Z.heap cN3 "UNASSIGNED_STACK" "[Ljava/lang/StackTraceElement;" us) (rf_us : us.isRef = true) (Sup : Sta Z Z.heap cN3 "SUPPRESSED_SENTINEL" "Ljava/util/List;" up) (rf_up : up.isRef = true) (hl : l.stackTraces = true) (rus : us.isRef = true) (SG0 : Sta Z Z.heap "java/lang/Integer" "DigitOnes" "[B" (.ref dg)) (VG0 : Arv Z Z.heap dg kdg .byte (100 : Int32) own_dig (.int 0)) (hC : C8_12 ln) :
  own_CW l Z true y51 prog_28_method_11_code 3 (some (.object cN7)) [] R8_12 #[.ref ra0, .ref sp, .ref sh] h0 [] (Q8_12 Z ra0 ln sn bsn csn sd bsd csd sp bsp csp sh bsh csh G1 G3 us up dg kdg h0 n0) := by
 refine own_entryW (plainFor_of_name pn_4) fun p e s m below meth c s₁ hx hby hml hown hnm hret hlk hZ hh hCH hSf hKn X0 e0 => ?_
 have hk8 := hC
 have N0 := Fr.nil n0
 have hS0 : s.Since s.vm h0.size := own_since s _
 have hk0 : h0.size ≤ h0.size := Nat.le_refl _
 have CH0 : CHr Z own_EL s.vm h0 s.vm h0 := CHr.refl hCH
 rw [ef_8_12 m ra0 sp sh]
 refine og s₁ (mkF m 1 #[vR ra0, vR sp, vR sh] [.ref ra0]) (fun _ k => qa X0 hx hby d8_0 rfl rfl rfl k) ?_
 obtain ⟨T1, h1, X1, e1, E1, A1, D1, U1, st1⟩ := newO X0 hx hZ hown (ow hw 58) (ow hw 59) (ow hw 60) e0 (g := (mkF m 1 #[vR ra0, vR sp, vR sh] [.ref ra0])) rfl (hb hby d8_1) (lb rfl) (lb rfl)
 obtain ⟨b1, gb1⟩ : ∃ z, z = h0.size := ⟨_, rfl⟩
 rw [← gb1] at A1 D1 U1 st1
 have g2 : n0 ≤ b1 := Nat.le_trans (own_osz OLD) (Nat.le_of_eq gb1.symm)
 have z3 : h0.size ≤ b1 := Nat.le_trans (Nat.le_refl _) (Nat.le_of_eq gb1.symm)
 have ch4 := CHr.ext E1 CH0.1
 have CH5 := CHr.trans CH0 ch4
 refine og T1 (mkF m 5 #[vR ra0, vR sp, vR sh] [.ref b1, .ref b1, .ref ra0]) (fun _ k => st1 _ (XS.dup X1.here hx rfl (hb hby d8_4) rfl rfl k)) ?_
 have F6 := (OLD.ext E1)
 obtain ⟨_, T7, L7, X7, hQ7, st7⟩ := own_sc X1 hx hZ rfl hown (ow hw 61) (ow hw 62) (rm9_13 l Z a0 hw b1 ((0 : Int32)) G1 h1 n0 F6 A1 (D1 (Or.inl (ow hw 75)) (ty := .byte) (by decide)) (D1 (Or.inl (ow hw 97)) (ty := .int) (by decide)) (D1 (Or.inl (ow hw 368)) (ty := .boolean) (by decide)) (D1 (Or.inl (ow hw 73)) (ty := (.array .byte)) (by decide)) O2 P5 g2) (ow hw 63) (ow hw 60) e1 (g := (mkF m 5 #[vR ra0, vR sp, vR sh] [.ref b1, .ref b1, .ref ra0])) rfl (zs hml) (argsL := []) (rest := [.ref b1, .ref ra0]) (lenOf pd_5 rfl) rfl (hb hby d8_5) (W := 2) rfl
 obtain ⟨o8, kc9, rfl, Nq7, K7, f10, f11, f12⟩ := hQ7
 have N7 := Fr.app N0 Nq7
 have g13 : n0 ≤ o8 := Nat.le_trans (own_osz F6) f10
 have F15 := (Nat.le_trans (Nat.le_refl _) E1.1)
 have z14 : h0.size ≤ o8 := Nat.le_trans F15 f10
 have ch16 := CHr.keep K7 (allS (Safe.exa hZ.alike A1 (by decide) (by decide)) all0) CH5.1
 have CH17 := CHr.trans CH5 ch16
 have sf18 := Safe.keep K7 (allS (Safe.exa hZ.alike A1 (by decide) (by decide)) all0) CH5.1 (Safe.new f10)
 refine og T7 (mkF m 9 #[vR ra0, vR sp, vR sh] [.ref sp, .ref b1, .ref ra0]) (fun _ k => st7.trans (qa X7 hx hby d8_8 rfl rfl rfl k)) ?_
 have F19 := ((S_sp.ext E1).keep K7 (ninS (own_ne_lo S_sp.lt (Nat.le_of_eq gb1.symm)) nin0) (ninS (own_ne_lo S_sp.ltb (Nat.le_of_eq gb1.symm)) nin0))
 have F20 := (F6.keep K7 (allS g2 all0))
 have F22 := (A1.keep K7)
 obtain ⟨_, T21, L21, X21, hQ21, st21⟩ := own_vc X7 hx hZ hown (ow hw 76) (ow hw 77) (ow hw 79) (ow hw 78) F22 (rm11_15 l Z a0 hw b1 o8 (([] : List Int32)) ((0 : Int32)) ((16 : Int32)) sp bsp csp ((1 : Int32)) ((1 : Int32)) G1 G3 T7.heap n0 F20 f11 f12 F19 O2 P5 g13 (own_ne_lo A1.lt f10) O4 rG3 Sas SHI SLO g2 (own_ne_lo S_sp.lt (Nat.le_of_eq gb1.symm)) (own_ne_lo S_sp.ltb (Nat.le_of_eq gb1.symm)) (own_ne_lo (Nat.lt_of_lt_of_le S_sp.ltb E1.1) f10) (by (repeat' apply And.intro) <;> decide)) (ow hw 80) (ow hw 60) rfl (g := (mkF m 9 #[vR ra0, vR sp, vR sh] [.ref sp, .ref b1, .ref ra0])) rfl (zs hml) (argsL := [.ref sp]) (rest := [.ref ra0]) (lenOf pd_22 rfl) rfl (hb hby d8_9) (W := 1) rfl
 obtain ⟨o23, rfl, Nq21, K21, f24, f25, f26⟩ := hQ21
 have N21 := Fr.app N7 Nq21
 have g27 : n0 ≤ o23 := own_altge f24 g13 (own_osz F20)
 have F29 := (Nat.le_trans F15 K7.1)
 have z28 : h0.size ≤ o23 := own_altge f24 z14 F29
 have ch30 := CHr.keep K21 (allS (Safe.exa hZ.alike F22 (by decide) (by decide)) (allS sf18 all0)) CH17.1
 have CH31 := CHr.trans CH17 ch30
 have F33 := (CHr.safe ch30 f11.ltb sf18)
 have sf32 := own_alt (P := fun z => Safe Z own_EL _ _ z) f24 F33 (fun q => Safe.keep K21 (allS (Safe.exa hZ.alike F22 (by decide) (by decide)) (allS sf18 all0)) CH17.1 (Safe.new q))
 refine ot T21 (mkF m 12 #[vR ra0, vR sp, vR sh] [.ref b1, .ref ra0]) st21 ?_
 have F35 := (Nat.le_trans (Nat.le_trans (Nat.le_trans hk0 E1.1) K7.1) K21.1)
 have F36 := (Nat.le_trans F29 K21.1)
 obtain ⟨l34, T34, h34, k34, lb34, lk34, X34, e34, E34, hS34, hk34, hZ34, hown34, Ex34, Fc34, Fv34, Av34, la34, lz34, ch34, Lt34, sf34, st34⟩ := ldcCH X21 hx hZ hown (ow hw 123) (own_wS hw) rfl hS0 F35 (own_EW hw) (by decide) CH31.1 (vs := [.int 58, .int 32, .int 116, .int 104, .int 101, .int 32, .int 101, .int 108, .int 101, .int 109, .int 101, .int 110, .int 116, .int 32, .int 60]) (z := (15 : Int32)) (by decide) (by decide) (by decide) (g := (mkF m 12 #[vR ra0, vR sp, vR sh] [.ref b1, .ref ra0])) rfl (hb hby d8_12) (n := 60) (by decide) (by decide) (lb rfl) (lb rfl)
 have CH37 := CHr.trans CH31 ch34
 have Ay34 : Arv Z h34 lb34 lk34 .byte (15 : Int32) (own_by cL1) (.int 0) := Av34
 refine og T34 (mkF m 14 #[vR ra0, vR sp, vR sh] [.ref l34, .ref b1, .ref ra0]) st34 ?_
 have hp38 : own_L cL1 := own_hpl _ rfl
 have S39 : own_st Z h34 l34 lb34 cL1 (15 : Int32) := own_stL Ex34 Fv34 (by decide) Fc34 Ay34 hp38
 have F40 := (f25.ext E34)
 have F41 := (f26.ext E34)
 have ne42 : b1 ≠ o23 := (own_altne f24 (own_ne_lo A1.lt f10) (Nat.lt_of_lt_of_le A1.lt K7.1))
 have ne43 : lb34 ≠ b1 := (Ne.symm (own_ne_arv ((F22.keep K21).ext E34) (ow hw 59) Ay34))
 have F44 := ((F20.keep K21 (allS g2 (allS g13 all0))).ext E34)
 have F46 := ((F22.keep K21).ext E34)
 obtain ⟨_, T45, L45, X45, hQ45, st45⟩ := own_vc X34 hx hZ34 hown34 (ow hw 76) (ow hw 77) (ow hw 79) (ow hw 78) F46 (rm11_15 l Z a0 hw b1 o23 ((([] : List Int32) ++ csp)) ((1 : Int32)) ((16 : Int32)) l34 lb34 cL1 ((15 : Int32)) ((16 : Int32)) G1 G3 h34 n0 F44 F40 F41 S39 O2 P5 g27 ne42 O4 rG3 Sas SHI SLO g2 (ne_exa Ex34 ((F22.keep K21).ext E34) (by decide)) ne43 (Ne.symm (sf34 o23 (CHr.safe ch34 f25.ltb sf32)).2) (by (repeat' apply And.intro) <;> decide)) (ow hw 80) (ow hw 60) e34 (g := (mkF m 14 #[vR ra0, vR sp, vR sh] [.ref l34, .ref b1, .ref ra0])) rfl (zs hml) (argsL := [.ref l34]) (rest := [.ref ra0]) (lenOf pd_22 rfl) rfl (hb hby d8_14) (W := 1) rfl
 obtain ⟨o47, rfl, Nq45, K45, f48, f49, f50⟩ := hQ45
 have N45 := Fr.app N21 Nq45
 have g51 : n0 ≤ o47 := own_altge f48 g27 (own_osz F44)
 have F53 := (Nat.le_trans F36 E34.1)
 have z52 : h0.size ≤ o47 := own_altge f48 z28 F53
 have ch54 := CHr.keep K45 (allS (Safe.exa hZ34.alike F46 (by decide) (by decide)) (allS (CHr.safe ch34 f25.ltb sf32) all0)) CH37.1
 have CH55 := CHr.trans CH37 ch54
 have F57 := (CHr.safe ch54 (Nat.lt_of_lt_of_le f25.ltb E34.1) (CHr.safe ch34 f25.ltb sf32))
 have sf56 := own_alt (P := fun z => Safe Z own_EL _ _ z) f48 F57 (fun q => Safe.keep K45 (allS (Safe.exa hZ34.alike F46 (by decide) (by decide)) (allS (CHr.safe ch34 f25.ltb sf32) all0)) CH37.1 (Safe.new q))
 refine og T45 (mkF m 18 #[vR ra0, vR sp, vR sh] [.ref ra0, .ref b1, .ref ra0]) (fun _ k => st45.trans (qa X45 hx hby d8_17 rfl rfl rfl k)) ?_
 have F58 := ((((B'.ext E1).keep K7 (ninS (own_ne_lo A'.lt (Nat.le_of_eq gb1.symm)) nin0)).keep K21 (ninS (own_ne_lo A'.lt (Nat.le_of_eq gb1.symm)) (ninS (own_ne_lo (Nat.lt_of_lt_of_le A'.lt E1.1) f10) nin0))).ext E34)
 have ne59 : ra0 ≠ o23 := (own_altne f24 (own_ne_lo (Nat.lt_of_lt_of_le A'.lt E1.1) f10) (Nat.lt_of_lt_of_le (Nat.lt_of_lt_of_le A'.lt E1.1) K7.1))
 have F60 := (F58.keep K45 (ninS (own_ne_lo A'.lt (Nat.le_of_eq gb1.symm)) (ninS ne59 nin0)))
 obtain ⟨T61, X61, e61, st61⟩ := qf X45 hx hZ34 hown34 (ow hw 41) rfl F60 (g := (mkF m 18 #[vR ra0, vR sp, vR sh] [.ref ra0, .ref b1, .ref ra0])) rfl rfl hby d8_18
 refine og T61 (mkF m 21 #[vR ra0, vR sp, vR sh] [.ref sn, .ref b1, .ref ra0]) st61 ?_
 have F62 := ((((S_sn.ext E1).keep K7 (ninS (own_ne_lo S_sn.lt (Nat.le_of_eq gb1.symm)) nin0) (ninS (own_ne_lo S_sn.ltb (Nat.le_of_eq gb1.symm)) nin0)).keep K21 (ninS (own_ne_lo S_sn.lt (Nat.le_of_eq gb1.symm)) (ninS (own_ne_lo (Nat.lt_of_lt_of_le S_sn.lt E1.1) f10) nin0)) (ninS (own_ne_lo S_sn.ltb (Nat.le_of_eq gb1.symm)) (ninS (own_ne_lo (Nat.lt_of_lt_of_le S_sn.ltb E1.1) f10) nin0))).ext E34)
 have ne63 : sn ≠ o23 := (own_altne f24 (own_ne_lo (Nat.lt_of_lt_of_le S_sn.lt E1.1) f10) (Nat.lt_of_lt_of_le (Nat.lt_of_lt_of_le S_sn.lt E1.1) K7.1))
 have ne64 : bsn ≠ o23 := (own_altne f24 (own_ne_lo (Nat.lt_of_lt_of_le S_sn.ltb E1.1) f10) (Nat.lt_of_lt_of_le (Nat.lt_of_lt_of_le S_sn.ltb E1.1) K7.1))
 have F65 := (F62.keep K45 (ninS (own_ne_lo S_sn.lt (Nat.le_of_eq gb1.symm)) (ninS ne63 nin0)) (ninS (own_ne_lo S_sn.ltb (Nat.le_of_eq gb1.symm)) (ninS ne64 nin0)))
 have F66 := (F44.keep K45 (allS g2 (allS g27 all0)))
 have F68 := (F46.keep K45)
 obtain ⟨_, T67, L67, X67, hQ67, st67⟩ := own_vc X61 hx hZ34 hown34 (ow hw 76) (ow hw 77) (ow hw 79) (ow hw 78) F68 (rm11_43 l Z a0 hw b1 o47 (((([] : List Int32) ++ csp) ++ cL1)) ((16 : Int32)) ((16 : Int32)) sn bsn csn ((1 : Int32)) ((17 : Int32)) ((34 : Int32)) G1 G3 T45.heap n0 F66 f49 f50 F65 O2 P5 g2 (own_ne_lo S_sn.lt (Nat.le_of_eq gb1.symm)) (own_ne_lo S_sn.ltb (Nat.le_of_eq gb1.symm)) O4 rG3 Sas SHI SLO (by (repeat' apply And.intro) <;> decide)) (ow hw 80) (ow hw 60) e61 (g := (mkF m 21 #[vR ra0, vR sp, vR sh] [.ref sn, .ref b1, .ref ra0])) rfl (zs hml) (argsL := [.ref sn]) (rest := [.ref ra0]) (lenOf pd_22 rfl) rfl (hb hby d8_21) (W := 1) rfl
 obtain ⟨o69, rfl, Nq67, K67, f70, f71, f72⟩ := hQ67
 have N67 := Fr.app N45 Nq67
 have g73 : n0 ≤ o69 := Nat.le_trans (own_osz F66) f70
 have F75 := (Nat.le_trans F53 K45.1)
 have z74 : h0.size ≤ o69 := Nat.le_trans F75 f70
 have ch76 := CHr.keep K67 (allS (Safe.exa hZ34.alike F68 (by decide) (by decide)) all0) CH55.1
 have CH77 := CHr.trans CH55 ch76
 have sf78 := Safe.keep K67 (allS (Safe.exa hZ34.alike F68 (by decide) (by decide)) all0) CH55.1 (Safe.new f70)
 refine ot T67 (mkF m 24 #[vR ra0, vR sp, vR sh] [.ref b1, .ref ra0]) st67 ?_
 have F80 := (Nat.le_trans (Nat.le_trans hk34 K45.1) K67.1)
 have F81 := (Nat.le_trans F75 K67.1)
 obtain ⟨l79, T79, h79, k79, lb79, lk79, X79, e79, E79, hS79, hk79, hZ79, hown79, Ex79, Fc79, Fv79, Av79, la79, lz79, ch79, Lt79, sf79, st79⟩ := ldcCH X67 hx hZ34 hown34 (ow hw 147) (own_wS hw) rfl hS34 F80 (own_EW hw) (by decide) CH77.1 (vs := [.int 62, .int 32, .int 105, .int 115, .int 32, .int 110, .int 111, .int 116, .int 32, .int 114, .int 101, .int 97, .int 100, .int 58, .int 32]) (z := (15 : Int32)) (by decide) (by decide) (by decide) (g := (mkF m 24 #[vR ra0, vR sp, vR sh] [.ref b1, .ref ra0])) rfl (hb hby d8_24) (n := 60) (by decide) (by decide) (lb rfl) (lb rfl)
 have CH82 := CHr.trans CH77 ch79
 have Ay79 : Arv Z h79 lb79 lk79 .byte (15 : Int32) (own_by cL2) (.int 0) := Av79
 refine og T79 (mkF m 26 #[vR ra0, vR sp, vR sh] [.ref l79, .ref b1, .ref ra0]) st79 ?_
 have hp83 : own_L cL2 := own_hpl _ rfl
 have S84 : own_st Z h79 l79 lb79 cL2 (15 : Int32) := own_stL Ex79 Fv79 (by decide) Fc79 Ay79 hp83
 have F85 := (f71.ext E79)
 have F86 := (f72.ext E79)
 have ne87 : b1 ≠ o69 := (own_ne_lo (Nat.lt_of_lt_of_le (Nat.lt_of_lt_of_le (Nat.lt_of_lt_of_le (Nat.lt_of_lt_of_le A1.lt K7.1) K21.1) E34.1) K45.1) f70)
 have ne88 : lb79 ≠ b1 := (Ne.symm (own_ne_arv ((F68.keep K67).ext E79) (ow hw 59) Ay79))
 have F89 := ((F66.keep K67 (allS g2 all0)).ext E79)
 have F91 := ((F68.keep K67).ext E79)
 obtain ⟨_, T90, L90, X90, hQ90, st90⟩ := own_vc X79 hx hZ79 hown79 (ow hw 76) (ow hw 77) (ow hw 79) (ow hw 78) F91 (rm11_15 l Z a0 hw b1 o69 ((((([] : List Int32) ++ csp) ++ cL1) ++ csn)) ((17 : Int32)) ((34 : Int32)) l79 lb79 cL2 ((15 : Int32)) ((32 : Int32)) G1 G3 h79 n0 F89 F85 F86 S84 O2 P5 g73 ne87 O4 rG3 Sas SHI SLO g2 (ne_exa Ex79 ((F68.keep K67).ext E79) (by decide)) ne88 (Ne.symm (sf79 o69 (CHr.safe ch79 f71.ltb sf78)).2) (by (repeat' apply And.intro) <;> decide)) (ow hw 80) (ow hw 60) e79 (g := (mkF m 26 #[vR ra0, vR sp, vR sh] [.ref l79, .ref b1, .ref ra0])) rfl (zs hml) (argsL := [.ref l79]) (rest := [.ref ra0]) (lenOf pd_22 rfl) rfl (hb hby d8_26) (W := 1) rfl
 obtain ⟨o92, rfl, Nq90, K90, f93, f94, f95⟩ := hQ90
 have N90 := Fr.app N67 Nq90
 have g96 : n0 ≤ o92 := own_altge f93 g73 (own_osz F89)
 have F98 := (Nat.le_trans F81 E79.1)
 have z97 : h0.size ≤ o92 := own_altge f93 z74 F98
 have ch99 := CHr.keep K90 (allS (Safe.exa hZ79.alike F91 (by decide) (by decide)) (allS (CHr.safe ch79 f71.ltb sf78) all0)) CH82.1
 have CH100 := CHr.trans CH82 ch99
 have F102 := (CHr.safe ch99 (Nat.lt_of_lt_of_le f71.ltb E79.1) (CHr.safe ch79 f71.ltb sf78))
 have sf101 := own_alt (P := fun z => Safe Z own_EL _ _ z) f93 F102 (fun q => Safe.keep K90 (allS (Safe.exa hZ79.alike F91 (by decide) (by decide)) (allS (CHr.safe ch79 f71.ltb sf78) all0)) CH82.1 (Safe.new q))
 refine og T90 (mkF m 30 #[vR ra0, vR sp, vR sh] [.ref sh, .ref b1, .ref ra0]) (fun _ k => st90.trans (qa X90 hx hby d8_29 rfl rfl rfl k)) ?_
 have F103 := ((((S_sh.ext E1).keep K7 (ninS (own_ne_lo S_sh.lt (Nat.le_of_eq gb1.symm)) nin0) (ninS (own_ne_lo S_sh.ltb (Nat.le_of_eq gb1.symm)) nin0)).keep K21 (ninS (own_ne_lo S_sh.lt (Nat.le_of_eq gb1.symm)) (ninS (own_ne_lo (Nat.lt_of_lt_of_le S_sh.lt E1.1) f10) nin0)) (ninS (own_ne_lo S_sh.ltb (Nat.le_of_eq gb1.symm)) (ninS (own_ne_lo (Nat.lt_of_lt_of_le S_sh.ltb E1.1) f10) nin0))).ext E34)
 have ne104 : sh ≠ o23 := (own_altne f24 (own_ne_lo (Nat.lt_of_lt_of_le S_sh.lt E1.1) f10) (Nat.lt_of_lt_of_le (Nat.lt_of_lt_of_le S_sh.lt E1.1) K7.1))
 have ne105 : bsh ≠ o23 := (own_altne f24 (own_ne_lo (Nat.lt_of_lt_of_le S_sh.ltb E1.1) f10) (Nat.lt_of_lt_of_le (Nat.lt_of_lt_of_le S_sh.ltb E1.1) K7.1))
 have ne106 : sh ≠ o69 := (own_ne_lo (Nat.lt_of_lt_of_le (Nat.lt_of_lt_of_le (Nat.lt_of_lt_of_le (Nat.lt_of_lt_of_le (Nat.lt_of_lt_of_le S_sh.lt E1.1) K7.1) K21.1) E34.1) K45.1) f70)
 have ne107 : bsh ≠ o69 := (own_ne_lo (Nat.lt_of_lt_of_le (Nat.lt_of_lt_of_le (Nat.lt_of_lt_of_le (Nat.lt_of_lt_of_le (Nat.lt_of_lt_of_le S_sh.ltb E1.1) K7.1) K21.1) E34.1) K45.1) f70)
 have F108 := ((((F103.keep K45 (ninS (own_ne_lo S_sh.lt (Nat.le_of_eq gb1.symm)) (ninS ne104 nin0)) (ninS (own_ne_lo S_sh.ltb (Nat.le_of_eq gb1.symm)) (ninS ne105 nin0))).keep K67 (ninS (own_ne_lo S_sh.lt (Nat.le_of_eq gb1.symm)) nin0) (ninS (own_ne_lo S_sh.ltb (Nat.le_of_eq gb1.symm)) nin0)).ext E79).keep K90 (ninS (own_ne_lo S_sh.lt (Nat.le_of_eq gb1.symm)) (ninS ne106 nin0)) (ninS (own_ne_lo S_sh.ltb (Nat.le_of_eq gb1.symm)) (ninS ne107 nin0)))
 have ne109 : b1 ≠ o92 := (own_altne f93 ne87 (Nat.lt_of_lt_of_le (Nat.lt_of_lt_of_le (Nat.lt_of_lt_of_le (Nat.lt_of_lt_of_le (Nat.lt_of_lt_of_le (Nat.lt_of_lt_of_le A1.lt K7.1) K21.1) E34.1) K45.1) K67.1) E79.1))
 have ne110 : bsh ≠ o92 := (own_altne f93 ne107 (Nat.lt_of_lt_of_le (Nat.lt_of_lt_of_le (Nat.lt_of_lt_of_le (Nat.lt_of_lt_of_le (Nat.lt_of_lt_of_le (Nat.lt_of_lt_of_le (Nat.lt_of_lt_of_le S_sh.ltb E1.1) K7.1) K21.1) E34.1) K45.1) K67.1) E79.1))
 have F111 := (F89.keep K90 (allS g2 (allS g73 all0)))
 have F113 := (F91.keep K90)
 obtain ⟨_, T112, L112, X112, hQ112, st112⟩ := own_vc X90 hx hZ79 hown79 (ow hw 76) (ow hw 77) (ow hw 79) (ow hw 78) F113 (rm11_15 l Z a0 hw b1 o92 (((((([] : List Int32) ++ csp) ++ cL1) ++ csn) ++ cL2)) ((32 : Int32)) ((34 : Int32)) sh bsh csh ((1 : Int32)) ((33 : Int32)) G1 G3 T90.heap n0 F111 f94 f95 F108 O2 P5 g96 ne109 O4 rG3 Sas SHI SLO g2 (own_ne_lo S_sh.lt (Nat.le_of_eq gb1.symm)) (own_ne_lo S_sh.ltb (Nat.le_of_eq gb1.symm)) ne110 (by (repeat' apply And.intro) <;> decide)) (ow hw 80) (ow hw 60) rfl (g := (mkF m 30 #[vR ra0, vR sp, vR sh] [.ref sh, .ref b1, .ref ra0])) rfl (zs hml) (argsL := [.ref sh]) (rest := [.ref ra0]) (lenOf pd_22 rfl) rfl (hb hby d8_30) (W := 1) rfl
 obtain ⟨o114, rfl, Nq112, K112, f115, f116, f117⟩ := hQ112
 have N112 := Fr.app N90 Nq112
 have g118 : n0 ≤ o114 := own_altge f115 g96 (own_osz F111)
 have F120 := (Nat.le_trans F98 K90.1)
 have z119 : h0.size ≤ o114 := own_altge f115 z97 F120
 have ch121 := CHr.keep K112 (allS (Safe.exa hZ79.alike F113 (by decide) (by decide)) (allS sf101 all0)) CH100.1
 have CH122 := CHr.trans CH100 ch121
 have F124 := (CHr.safe ch121 f94.ltb sf101)
 have sf123 := own_alt (P := fun z => Safe Z own_EL _ _ z) f115 F124 (fun q => Safe.keep K112 (allS (Safe.exa hZ79.alike F113 (by decide) (by decide)) (allS sf101 all0)) CH100.1 (Safe.new q))
 refine ot T112 (mkF m 33 #[vR ra0, vR sp, vR sh] [.ref b1, .ref ra0]) st112 ?_
 have F125 := (F111.keep K112 (allS g2 (allS g96 all0)))
 have F127 := (F113.keep K112)
 obtain ⟨_, T126, L126, X126, hQ126, st126⟩ := own_vc X112 hx hZ79 hown79 (ow hw 148) (ow hw 149) (ow hw 151) (ow hw 150) F127 (rm24_53 l Z a0 hw b1 o114 ((((((([] : List Int32) ++ csp) ++ cL1) ++ csn) ++ cL2) ++ csh)) ((33 : Int32)) ((34 : Int32)) ((33 : Int32)) G1 T112.heap n0 F125 f116 f117 O2 P5 (by decide : ¬ ((33 : Int32) = (34 : Int32))) (by decide : ¬ ((33 : Int32) < (0 : Int32))) (by decide : ¬ (((33 : Int32) - (0 : Int32)) < (0 : Int32))) (by decide : ((33 : Int32) - (0 : Int32)).toNatClampNeg ≤ 400) (by decide : ((33 : Int32) - (0 : Int32)) < ((34 : Int32) - (0 : Int32))) (by decide : ((33 : Int32) - (0 : Int32)).toNatClampNeg ≤ (34 : Int32).toNatClampNeg) (by decide : (0 : Int32).toNatClampNeg + ((33 : Int32) - (0 : Int32)).toNatClampNeg ≤ ((33 : Int32) - (0 : Int32)).toNatClampNeg) (by decide : (33 : Int32).toNatClampNeg ≤ ((33 : Int32) - (0 : Int32)).toNatClampNeg) (by decide : ((33 : Int32) - (0 : Int32)) = (33 : Int32)) (by decide : ¬ (((33 : Int32) <<< ((1 : Int32) &&& 31)) = ((34 : Int32) <<< ((1 : Int32) &&& 31)))) (by decide : ¬ (((33 : Int32) <<< ((1 : Int32) &&& 31)) < (0 : Int32))) (by decide : ¬ ((((33 : Int32) <<< ((1 : Int32) &&& 31)) - (0 : Int32)) < (0 : Int32))) (by decide : (((33 : Int32) <<< ((1 : Int32) &&& 31)) - (0 : Int32)).toNatClampNeg ≤ 400) (by decide : (((33 : Int32) <<< ((1 : Int32) &&& 31)) - (0 : Int32)) < (((34 : Int32) <<< ((1 : Int32) &&& 31)) - (0 : Int32))) (by decide : (((33 : Int32) <<< ((1 : Int32) &&& 31)) - (0 : Int32)).toNatClampNeg ≤ ((34 : Int32) <<< ((1 : Int32) &&& 31)).toNatClampNeg) (by decide : (0 : Int32).toNatClampNeg + (((33 : Int32) <<< ((1 : Int32) &&& 31)) - (0 : Int32)).toNatClampNeg ≤ (((33 : Int32) <<< ((1 : Int32) &&& 31)) - (0 : Int32)).toNatClampNeg) (by decide : (2 * (33 : Int32).toNatClampNeg) ≤ (((33 : Int32) <<< ((1 : Int32) &&& 31)) - (0 : Int32)).toNatClampNeg) (by decide : (((33 : Int32) <<< ((1 : Int32) &&& 31)) - (0 : Int32)) = ((33 : Int32) <<< ((1 : Int32) &&& 31)))) (ow hw 152) (ow hw 60) rfl (g := (mkF m 33 #[vR ra0, vR sp, vR sh] [.ref b1, .ref ra0])) rfl (zs hml) (argsL := []) (rest := [.ref ra0]) (lenOf pd_30 rfl) rfl (hb hby d8_33) (W := 1) rfl
 obtain ⟨o128, o129, rfl, Nq126, K126, f130, f131, f132⟩ := hQ126
 have N126 := Fr.app N112 Nq126
 have g133 : n0 ≤ o128 := Nat.le_trans (own_osz F125) f130
 have F135 := (Nat.le_trans F120 K112.1)
 have z134 : h0.size ≤ o128 := Nat.le_trans F135 f130
 have g136 : n0 ≤ o129 := Nat.le_trans (own_osz F125) f131
 have z137 : h0.size ≤ o129 := Nat.le_trans F135 f131
 have ch138 := CHr.keep K126 all0 CH122.1
 have CH139 := CHr.trans CH122 ch138
 have sf140 := Safe.keep K126 all0 CH122.1 (Safe.new f130)
 have sf141 := Safe.keep K126 all0 CH122.1 (Safe.new f131)
 refine og T126 (mkF m 37 #[vR ra0, vR sp, vR sh] [.null, .ref o128, .ref ra0]) (fun _ k => st126.trans (XS.aconstNull X126.here hx rfl (hb hby d8_36) k)) ?_
 have F142 := ((((A'.ext E1).keep K7).keep K21).ext E34)
 have F143 := ((((F142.keep K45).keep K67).ext E79).keep K90)
 have F144 := ((F143.keep K112).keep K126)
 have F145 := ((((C'.ext E1).keep K7 (ninS (own_ne_lo A'.lt (Nat.le_of_eq gb1.symm)) nin0)).keep K21 (ninS (own_ne_lo A'.lt (Nat.le_of_eq gb1.symm)) (ninS (own_ne_lo (Nat.lt_of_lt_of_le A'.lt E1.1) f10) nin0))).ext E34)
 have ne146 : ra0 ≠ o69 := (own_ne_lo (Nat.lt_of_lt_of_le (Nat.lt_of_lt_of_le (Nat.lt_of_lt_of_le (Nat.lt_of_lt_of_le (Nat.lt_of_lt_of_le A'.lt E1.1) K7.1) K21.1) E34.1) K45.1) f70)
 have F147 := ((((F145.keep K45 (ninS (own_ne_lo A'.lt (Nat.le_of_eq gb1.symm)) (ninS ne59 nin0))).keep K67 (ninS (own_ne_lo A'.lt (Nat.le_of_eq gb1.symm)) nin0)).ext E79).keep K90 (ninS (own_ne_lo A'.lt (Nat.le_of_eq gb1.symm)) (ninS ne146 nin0)))
 have ne148 : ra0 ≠ o92 := (own_altne f93 ne146 (Nat.lt_of_lt_of_le (Nat.lt_of_lt_of_le (Nat.lt_of_lt_of_le (Nat.lt_of_lt_of_le (Nat.lt_of_lt_of_le (Nat.lt_of_lt_of_le (Nat.lt_of_lt_of_le A'.lt E1.1) K7.1) K21.1) E34.1) K45.1) K67.1) E79.1))
 have F149 := ((F147.keep K112 (ninS (own_ne_lo A'.lt (Nat.le_of_eq gb1.symm)) (ninS ne148 nin0))).keep K126 nin0)
 have F150 := ((((S_sd.ext E1).keep K7 (ninS (own_ne_lo S_sd.lt (Nat.le_of_eq gb1.symm)) nin0) (ninS (own_ne_lo S_sd.ltb (Nat.le_of_eq gb1.symm)) nin0)).keep K21 (ninS (own_ne_lo S_sd.lt (Nat.le_of_eq gb1.symm)) (ninS (own_ne_lo (Nat.lt_of_lt_of_le S_sd.lt E1.1) f10) nin0)) (ninS (own_ne_lo S_sd.ltb (Nat.le_of_eq gb1.symm)) (ninS (own_ne_lo (Nat.lt_of_lt_of_le S_sd.ltb E1.1) f10) nin0))).ext E34)
 have ne151 : sd ≠ o23 := (own_altne f24 (own_ne_lo (Nat.lt_of_lt_of_le S_sd.lt E1.1) f10) (Nat.lt_of_lt_of_le (Nat.lt_of_lt_of_le S_sd.lt E1.1) K7.1))
 have ne152 : bsd ≠ o23 := (own_altne f24 (own_ne_lo (Nat.lt_of_lt_of_le S_sd.ltb E1.1) f10) (Nat.lt_of_lt_of_le (Nat.lt_of_lt_of_le S_sd.ltb E1.1) K7.1))
 have ne153 : sd ≠ o69 := (own_ne_lo (Nat.lt_of_lt_of_le (Nat.lt_of_lt_of_le (Nat.lt_of_lt_of_le (Nat.lt_of_lt_of_le (Nat.lt_of_lt_of_le S_sd.lt E1.1) K7.1) K21.1) E34.1) K45.1) f70)
 have ne154 : bsd ≠ o69 := (own_ne_lo (Nat.lt_of_lt_of_le (Nat.lt_of_lt_of_le (Nat.lt_of_lt_of_le (Nat.lt_of_lt_of_le (Nat.lt_of_lt_of_le S_sd.ltb E1.1) K7.1) K21.1) E34.1) K45.1) f70)
 have F155 := ((((F150.keep K45 (ninS (own_ne_lo S_sd.lt (Nat.le_of_eq gb1.symm)) (ninS ne151 nin0)) (ninS (own_ne_lo S_sd.ltb (Nat.le_of_eq gb1.symm)) (ninS ne152 nin0))).keep K67 (ninS (own_ne_lo S_sd.lt (Nat.le_of_eq gb1.symm)) nin0) (ninS (own_ne_lo S_sd.ltb (Nat.le_of_eq gb1.symm)) nin0)).ext E79).keep K90 (ninS (own_ne_lo S_sd.lt (Nat.le_of_eq gb1.symm)) (ninS ne153 nin0)) (ninS (own_ne_lo S_sd.ltb (Nat.le_of_eq gb1.symm)) (ninS ne154 nin0)))
 have ne156 : sd ≠ o92 := (own_altne f93 ne153 (Nat.lt_of_lt_of_le (Nat.lt_of_lt_of_le (Nat.lt_of_lt_of_le (Nat.lt_of_lt_of_le (Nat.lt_of_lt_of_le (Nat.lt_of_lt_of_le (Nat.lt_of_lt_of_le S_sd.lt E1.1) K7.1) K21.1) E34.1) K45.1) K67.1) E79.1))
 have ne157 : bsd ≠ o92 := (own_altne f93 ne154 (Nat.lt_of_lt_of_le (Nat.lt_of_lt_of_le (Nat.lt_of_lt_of_le (Nat.lt_of_lt_of_le (Nat.lt_of_lt_of_le (Nat.lt_of_lt_of_le (Nat.lt_of_lt_of_le S_sd.ltb E1.1) K7.1) K21.1) E34.1) K45.1) K67.1) E79.1))
 have F158 := ((F155.keep K112 (ninS (own_ne_lo S_sd.lt (Nat.le_of_eq gb1.symm)) (ninS ne156 nin0)) (ninS (own_ne_lo S_sd.ltb (Nat.le_of_eq gb1.symm)) (ninS ne157 nin0))).keep K126 nin0 nin0)
 have F159 := ((((D'.ext E1).keep K7 (ninS (own_ne_lo A'.lt (Nat.le_of_eq gb1.symm)) nin0)).keep K21 (ninS (own_ne_lo A'.lt (Nat.le_of_eq gb1.symm)) (ninS (own_ne_lo (Nat.lt_of_lt_of_le A'.lt E1.1) f10) nin0))).ext E34)
 have F160 := ((((F159.keep K45 (ninS (own_ne_lo A'.lt (Nat.le_of_eq gb1.symm)) (ninS ne59 nin0))).keep K67 (ninS (own_ne_lo A'.lt (Nat.le_of_eq gb1.symm)) nin0)).ext E79).keep K90 (ninS (own_ne_lo A'.lt (Nat.le_of_eq gb1.symm)) (ninS ne146 nin0)))
 have F161 := ((F160.keep K112 (ninS (own_ne_lo A'.lt (Nat.le_of_eq gb1.symm)) (ninS ne148 nin0))).keep K126 nin0)
 have F162 := ((((F60.keep K67 (ninS (own_ne_lo A'.lt (Nat.le_of_eq gb1.symm)) nin0)).ext E79).keep K90 (ninS (own_ne_lo A'.lt (Nat.le_of_eq gb1.symm)) (ninS ne146 nin0))).keep K112 (ninS (own_ne_lo A'.lt (Nat.le_of_eq gb1.symm)) (ninS ne148 nin0)))
 have F163 := (F162.keep K126 nin0)
 have ne164 : sn ≠ o69 := (own_ne_lo (Nat.lt_of_lt_of_le (Nat.lt_of_lt_of_le (Nat.lt_of_lt_of_le (Nat.lt_of_lt_of_le (Nat.lt_of_lt_of_le S_sn.lt E1.1) K7.1) K21.1) E34.1) K45.1) f70)
 have ne165 : bsn ≠ o69 := (own_ne_lo (Nat.lt_of_lt_of_le (Nat.lt_of_lt_of_le (Nat.lt_of_lt_of_le (Nat.lt_of_lt_of_le (Nat.lt_of_lt_of_le S_sn.ltb E1.1) K7.1) K21.1) E34.1) K45.1) f70)
 have ne166 : sn ≠ o92 := (own_altne f93 ne164 (Nat.lt_of_lt_of_le (Nat.lt_of_lt_of_le (Nat.lt_of_lt_of_le (Nat.lt_of_lt_of_le (Nat.lt_of_lt_of_le (Nat.lt_of_lt_of_le (Nat.lt_of_lt_of_le S_sn.lt E1.1) K7.1) K21.1) E34.1) K45.1) K67.1) E79.1))
 have ne167 : bsn ≠ o92 := (own_altne f93 ne165 (Nat.lt_of_lt_of_le (Nat.lt_of_lt_of_le (Nat.lt_of_lt_of_le (Nat.lt_of_lt_of_le (Nat.lt_of_lt_of_le (Nat.lt_of_lt_of_le (Nat.lt_of_lt_of_le S_sn.ltb E1.1) K7.1) K21.1) E34.1) K45.1) K67.1) E79.1))
 have F168 := ((((F65.keep K67 (ninS (own_ne_lo S_sn.lt (Nat.le_of_eq gb1.symm)) nin0) (ninS (own_ne_lo S_sn.ltb (Nat.le_of_eq gb1.symm)) nin0)).ext E79).keep K90 (ninS (own_ne_lo S_sn.lt (Nat.le_of_eq gb1.symm)) (ninS ne164 nin0)) (ninS (own_ne_lo S_sn.ltb (Nat.le_of_eq gb1.symm)) (ninS ne165 nin0))).keep K112 (ninS (own_ne_lo S_sn.lt (Nat.le_of_eq gb1.symm)) (ninS ne166 nin0)) (ninS (own_ne_lo S_sn.ltb (Nat.le_of_eq gb1.symm)) (ninS ne167 nin0)))
 have F169 := (F168.keep K126 nin0 nin0)
 have F170 := (F125.keep K126 all0)
 obtain ⟨cq171, kq171, q171a, q171b, q171c⟩ := isOf hZ79 rfl F144
 obtain ⟨_, _, ⟨T171, L171, k171, n171⟩, -, X171, hs171, hg171, ⟨Lc171, hQ171, l171, y171, z171, ch171⟩, st171⟩ := X126.virtualBackS hx (y := y50) (z := y50) hown79 (mvT hZ79 (ow hw 187)) (mvT hZ79 (ow hw 188)) (notFace_of_selects (args := #[]) (mvT hZ79 (ow hw 190))) (mvT hZ79 (ow hw 190)) (mvT hZ79 (ow hw 189)) (by decide) (own_backSH (W := 0) (rm34_90 l Z a0 hw ra0 sd bsd csd ln sn bsn csn o128 o129 ((((((([] : List Int32) ++ csp) ++ cL1) ++ csn) ++ cL2) ++ csh)) G1 G3 us up dg kdg T126.heap n0 F170 F144 F149 F158 F161 F163 F169 f132 hk8 O2 P5 O4 rG3 Sas SHI SLO Sus rf_us Sup rf_up hl rus SG0 VG0) hZ79 (ow hw 191) (ow hw 2) (lb rfl) (lb rfl) (own_EW hw) CH139.1 all0 (fun _ => ⟨Vm.MethodsKnown.alikeC hS79.1.alike (hKn rfl).1, Vm.FramesKnown.alikeC hS79.1.alike (hKn rfl).2⟩)) q171a q171c (g := (mkF m 37 #[vR ra0, vR sp, vR sh] [.null, .ref o128, .ref ra0])) rfl (zs hml) (Steps.refl _) (argsL := [.ref o128, .null]) (rest := []) (lenOf pd_36 rfl) rfl (lb rfl) (hb hby d8_37) (fun _ _ => ⟨rfl, rfl, (lb rfl), (lb rfl)⟩)
 dsimp only [Pt.U, Pt.locs, Pt.cells, Pt.slots] at X171 l171 y171 z171 st171 hQ171 hs171 hg171 ch171
 subst l171 y171 z171
 replace X171 := own_reb X171
 have F172 := (Nat.le_trans (Nat.le_trans (Nat.le_trans hk79 K90.1) K112.1) K126.1)
 obtain ⟨hZ171, hS171, hown171⟩ := own_after hZ79 hS79 rfl F172 hs171 hg171 hown79
 obtain ⟨o173, o174, o175, rfl, Nq171, K171, f176, f177, f178, f179, f180, f181, f182, f183, f184⟩ := hQ171
 have N171 := Fr.app N126 Nq171
 have g185 : n0 ≤ o173 := Nat.le_trans (own_osz F170) f176
 have F187 := (Nat.le_trans F135 K126.1)
 have z186 : h0.size ≤ o173 := Nat.le_trans F187 f176
 have g188 : n0 ≤ o174 := Nat.le_trans (own_osz F170) f177
 have z189 : h0.size ≤ o174 := Nat.le_trans F187 f177
 have g190 : n0 ≤ o175 := Nat.le_trans (own_osz F170) f178
 have z191 : h0.size ≤ o175 := Nat.le_trans F187 f178
 have CH192 := CHr.trans CH139 ch171
 refine ot T171 (mkF m 40 #[vR ra0, vR sp, vR sh] [.ref o173]) st171 ?_
 have K193 := (((((Keep.refl h0 []).ext E1).trans K7 (allS (Or.inr z3) all0)).trans K21 (allS (Or.inr z3) (allS (Or.inr z14) all0))).ext E34)
 have K194 := ((((K193.trans K45 (allS (Or.inr z3) (allS (Or.inr z28) all0))).trans K67 (allS (Or.inr z3) all0)).ext E79).trans K90 (allS (Or.inr z3) (allS (Or.inr z74) all0)))
 have KEEP := (((K194.trans K112 (allS (Or.inr z3) (allS (Or.inr z97) all0))).trans K126 all0).trans K171 all0)
 exact own_leaveW (s := s) (vm0 := T171.vm) X171 hS171 (Nat.le_refl _) hZ171 (own_EW hw) rfl CH192 hh hlk (v := some (.ref o173)) (own_nr hret) (lb rfl) (lb rfl) (by exact ⟨o173, o174, o175, rfl, N171, KEEP, z186, z189, z191, f179, f180, f181, f182, f183, f184⟩) (own_ra X171 hx hret rfl rfl rfl (hb hby d8_40))
abbrev R45_94 : Room := { frames := 0, cells := 0, slots := 0, locals := 0 }
def Q45_94 (Z : State) (ca : Addr) (kca : ClassId) (cs : List Int32) (cn : Int32) (rb : Addr) (kd : ClassId) (h0 : Heap) (n0 : Nat) (v : Option Value) (h : Heap) (L : List Loc) : Prop := (v = some (.int cn) ∧ Fr n0 L ∧ Keep h0 h [rb] ∧ Arv Z h rb kd .byte cn (own_by cs) (.int 0) ∧ (own_lat cs)) ∨ (∃ (q1 : List Int32) (cq : Int32) (q2 : List Int32), (255 : Int32) < cq ∧ v = some (.int (Int32.ofNat q1.length)) ∧ Fr n0 L ∧ Keep h0 h [rb] ∧ Arv Z h rb kd .byte cn (own_by q1) (.int 0) ∧ (cs = q1 ++ cq :: q2))
abbrev C45_94 (cn : Int32) : Prop := (¬ (cn < (0 : Int32)))
theorem rm45_94 l Z a0 (hw : HW Z a0) ca kca (cs : List Int32) (cn : Int32) rb kd h0 n0 (OLD : Old Z n0 h0) (A' : Arv Z h0 ca kca .char cn (own_ci cs) (.int 0)) (B' : Arv Z h0 rb kd .byte cn (own_by ([] : List Int32)) (.int 0)) (hz : cs.length = cn.toNatClampNeg) (hz4 : cn.toNatClampNeg ≤ 400) (hch : ∀ c ∈ cs, ¬ c < 0 ∧ ¬ (65535 : Int32) < c) (ne_ca_rb : ca ≠ rb) (ge_rb : n0 ≤ rb) (hC : C45_94 cn) :
  own_CN l Z y54 jdk_52_method_21_code 7 (some .int) [] R45_94 #[.ref ca, .int 0, .ref rb, .int 0, .int cn] h0 (Q45_94 Z ca kca cs cn rb kd h0 n0) := by
 refine own_entryN (plainFor_of_name pn_0) fun p e s m below meth c s₁ hx hby hml hown hnm hret hlk hZ hh X0 e0 => ?_
 have hk4 := hC
 have N0 := Fr.nil n0
 rw [ef_45_94 m ca rb cn]
 refine og s₁ (mkF m 3 #[vR ca, vI 0, vR rb, vI 0, vI cn, vI 0, vU] []) (fun _ k => qc X0 hx hby d45_0 rfl (XS.istore X0.here hx rfl (hb hby d45_1) rfl (l' := #[vR ca, vI 0, vR rb, vI 0, vI cn, vI 0, vU]) rfl k)) ?_
 have J1 : ∀ (q2 q1 : List Int32), cs = q1 ++ q2 → ∀ (ii : Int32), ii = Int32.ofNat q1.length → ∀ (w6 : Slot), (w6 = vU ∨ ∃ x, w6 = vI x) → own_lat q1 → ∀ (Tq : State) (Lq : List Loc) (hq' : Heap), own_at2 X0 Tq Lq 0 0 → Tq.heap = hq' → Fr n0 Lq → Keep h0 hq' [rb] → Arv Z hq' rb kd .byte cn (own_by q1) (.int 0) → own_Fin p.tables e below (own_PN s (Q45_94 Z ca kca cs cn rb kd h0 n0) R45_94.cells R45_94.slots) Tq (mkF m 3 #[vR ca, vI ii, vR rb, vI ii, vI cn, vI ii, w6] []) := by
  intro q2
  induction q2 with
  | nil =>
   intro q1 hq ii hii w6 hw6 hlq Tq Lq hq' Xq eq Nq Kq Vq
   unfold own_at2 at Xq
   rw [List.append_nil] at hq
   subst hq
   refine og Tq (mkF m 46 #[vR ca, vI ii, vR rb, vI ii, vI cn, vI ii, w6] [.int cn]) (fun _ k => XS.iload Xq.here hx rfl (hb hby d45_3) rfl (XS.iload Xq.here hx rfl (hb hby d45_5) rfl (XS.icmpYes Xq.here hx rfl (pc0 := 7) (pc' := 44) rfl (hb hby d45_7) rfl (flt (own_ixE hz hz4 hk4 hii)).2.1 (by decide) (by decide) (XS.iload Xq.here hx rfl (hb hby d45_44) rfl k)))) ?_
   have KEEP := ((Keep.refl h0 [rb]).trans Kq (allS (Or.inl (List.mem_of_getElem? (i := 0) rfl)) all0))
   exact own_leaveN Xq hlk (v := some (.int cn)) (own_nr hret) (lb rfl) (lb rfl) (by rw [eq]; exact (Or.inl ⟨rfl, Nq, KEEP, Vq, hlq⟩)) (fun fs hr => retI Xq hx hret (hb hby d45_46) hr)
  | cons cq q2 ih =>
   intro q1 hq ii hii w6 hw6 hlq Tq Lq hq' Xq eq Nq Kq Vq
   unfold own_at2 at Xq
   refine og Tq (mkF m 12 #[vR ca, vI ii, vR rb, vI ii, vI cn, vI ii, w6] [.int ii, .ref ca]) (fun _ k => XS.iload Xq.here hx rfl (hb hby d45_3) rfl (XS.iload Xq.here hx rfl (hb hby d45_5) rfl (qn Xq hx hby d45_7 rfl rfl (tlt (own_ix hz hz4 hq hii).1.2).2.1 (qa Xq hx hby d45_10 rfl rfl rfl (qi Xq hx hby d45_11 rfl rfl k))))) ?_
   have F2 := (A'.keep Kq (ninS ne_ca_rb nin0))
   obtain ⟨cl3, Ar3, qr3, Sr3, Nr3, Hr3, Gr3⟩ := id F2
   have hi3 : ¬ (ii < 0 ∨ cl3.slots.size ≤ (ii).toNatClampNeg) := inb_of Sr3 (own_ix hz hz4 hq hii).1
   refine og Tq (mkF m 13 #[vR ca, vI ii, vR rb, vI ii, vI cn, vI ii, w6] [.int cq]) (fun t k => Xq.caload hx (j := ii) (v := (.int cq)) (by rw [eq]; exact Ar3.1) (State.isArrayOf_alike hZ.alike Ar3.2.1) Ar3.2.2 hi3 (Has.at Hr3 hi3 (own_cv hz hz4 hq hii)) (g := (mkF m 12 #[vR ca, vI ii, vR rb, vI ii, vI cn, vI ii, w6] [.int ii, .ref ca])) rfl rfl (hb hby d45_12) t k) ?_
   refine og Tq (mkF m 20 #[vR ca, vI ii, vR rb, vI ii, vI cn, vI ii, vI cq] [.int 255, .int cq]) (fun _ k => XS.istore Xq.here hx rfl (hb hby d45_13) rfl (l' := #[vR ca, vI ii, vR rb, vI ii, vI cn, vI ii, vI cq]) (by rcases hw6 with rfl | ⟨_, rfl⟩ <;> rfl) (XS.iload Xq.here hx rfl (hb hby d45_15) rfl (XS.sipush Xq.here hx rfl (hb hby d45_17) k))) ?_
   by_cases hc4 : (255 : Int32) < cq
   ·
    refine og Tq (mkF m 23 #[vR ca, vI ii, vR rb, vI ii, vI cn, vI ii, vI cq] []) (fun _ k => qn Xq hx hby d45_20 rfl rfl (tlt hc4).2.2.2 k) ?_
    subst hii
    refine og Tq (mkF m 25 #[vR ca, vI (Int32.ofNat q1.length), vR rb, vI (Int32.ofNat q1.length), vI cn, vI (Int32.ofNat q1.length), vI cq] [(.int (Int32.ofNat q1.length))]) (fun _ k => XS.iload Xq.here hx rfl (hb hby d45_23) rfl k) ?_
    have KEEP := ((Keep.refl h0 [rb]).trans Kq (allS (Or.inl (List.mem_of_getElem? (i := 0) rfl)) all0))
    exact own_leaveN Xq hlk (v := some (.int (Int32.ofNat q1.length))) (own_nr hret) (lb rfl) (lb rfl) (by rw [eq]; exact (Or.inr ⟨q1, cq, q2, hc4, rfl, Nq, KEEP, Vq, hq⟩)) (fun fs hr => retI Xq hx hret (hb hby d45_25) hr)
   ·
    refine og Tq (mkF m 31 #[vR ca, vI ii, vR rb, vI ii, vI cn, vI ii, vI cq] [(.int (cq.toInt8.toInt32)), .int ii, .ref rb]) (fun _ k => XS.icmpYes Xq.here hx rfl (pc0 := 20) (pc' := 26) rfl (hb hby d45_20) rfl (flt hc4).2.2.2 (by decide) (by decide) (qa Xq hx hby d45_26 rfl rfl rfl (qi Xq hx hby d45_27 rfl rfl (XS.iload Xq.here hx rfl (hb hby d45_28) rfl (XS.i2b Xq.here hx rfl (hb hby d45_30) rfl k))))) ?_
    obtain ⟨T5, h5, X5, e5, W5, V5, st5⟩ := own_bst Xq hx hZ eq Vq (n := q1.length) rfl (j := ii) (own_ix hz hz4 hq hii).2 (own_ix hz hz4 hq hii).1 (g := (mkF m 31 #[vR ca, vI ii, vR rb, vI ii, vI cn, vI ii, vI cq] [(.int (cq.toInt8.toInt32)), .int ii, .ref rb])) rfl rfl (hb hby d45_31)
    have N5 := Fr.snoc X5 Nq ge_rb
    refine og T5 (mkF m 3 #[vR ca, vI (ii + (1 : Int32)), vR rb, vI (ii + (1 : Int32)), vI cn, vI (ii + (1 : Int32)), vI cq] []) (fun _ k => st5 _ (XS.iinc X5.here hx rfl (hb hby d45_32) rfl (l' := #[vR ca, vI (ii + (1 : Int32)), vR rb, vI ii, vI cn, vI ii, vI cq]) rfl (XS.iinc X5.here hx rfl (hb hby d45_35) rfl (l' := #[vR ca, vI (ii + (1 : Int32)), vR rb, vI (ii + (1 : Int32)), vI cn, vI ii, vI cq]) rfl (XS.iinc X5.here hx rfl (hb hby d45_38) rfl (l' := #[vR ca, vI (ii + (1 : Int32)), vR rb, vI (ii + (1 : Int32)), vI cn, vI (ii + (1 : Int32)), vI cq]) rfl (XS.goto X5.here hx rfl (pc0 := 41) (pc' := 3) rfl (hb hby d45_41) (by decide) (by decide) k))))) ?_
    exact ih (q1 ++ [cq]) (by rw [hq, List.append_assoc]; rfl) _ (own_inc1 hii) _ (Or.inr ⟨_, rfl⟩) (own_latS hlq (own_chm hch hq).1 hc4) _ _ _ (own_wk X5 (lb rfl) (lb rfl)) e5 N5 (Kq.wr W5 (Or.inl (List.mem_of_getElem? (i := 0) rfl))) (own_by8 V5)
 exact J1 cs [] rfl _ rfl _ (Or.inl rfl) own_latN _ _ _ X0 e0 N0 (Keep.refl _ _) B'
abbrev R65_95 : Room := { frames := 2, cells := 1, slots := 400, locals := 24 }
def Q65_95 (Z : State) (ca : Addr) (kca : ClassId) (cs : List Int32) (cn : Int32) (h0 : Heap) (n0 : Nat) (v : Option Value) (h : Heap) (L : List Loc) : Prop := (∃ (eq0 : Addr) (eq1 : ClassId), v = some (.ref eq0) ∧ Fr n0 L ∧ Keep h0 h [] ∧ h0.size ≤ eq0 ∧ Exa Z h eq0 "[B" ∧ Arv Z h eq0 eq1 .byte (cn <<< ((1 : Int32) &&& 31)) (own_by (own_u cs)) (.int 0))
abbrev C65_95 (cn : Int32) : Prop := (¬ (cn < (0 : Int32))) ∧ (cn < (1073741823 : Int32)) ∧ (¬ ((cn <<< ((1 : Int32) &&& 31)) < (0 : Int32))) ∧ ((cn <<< ((1 : Int32) &&& 31)).toNatClampNeg ≤ 400) ∧ (2 * ((0 : Int32).toNatClampNeg + cn.toNatClampNeg) ≤ (cn <<< ((1 : Int32) &&& 31)).toNatClampNeg)
theorem rm65_95 l Z a0 (hw : HW Z a0) ca kca (cs : List Int32) (cn : Int32) h0 n0 (OLD : Old Z n0 h0) (A' : Arv Z h0 ca kca .char cn (own_ci cs) (.int 0)) (hz : cs.length = cn.toNatClampNeg) (hz4 : cn.toNatClampNeg ≤ 400) (Sas : Sta Z Z.heap cN2 "$assertionsDisabled" "Z" (.int 1)) (SHI : Sta Z Z.heap cN2 "HI_BYTE_SHIFT" "I" (.int 0)) (SLO : Sta Z Z.heap cN2 "LO_BYTE_SHIFT" "I" (.int 8)) (hC : C65_95 cn) :
  own_CN l Z y55 jdk_52_method_14_code 5 (some (.array .byte)) [] R65_95 #[.ref ca, .int 0, .int cn] h0 (Q65_95 Z ca kca cs cn h0 n0) := by
 refine own_entryN (plainFor_of_name pn_0) fun p e s m below meth c s₁ hx hby hml hown hnm hret hlk hZ hh X0 e0 => ?_
 obtain ⟨hk3, hn4, hn5, hn6, hn7⟩ := hC
 have N0 := Fr.nil n0
 rw [ef_65_95 m ca cn]
 refine og s₁ (mkF m 1 #[vR ca, vI 0, vI cn, vU, vU] [.int cn]) (fun _ k => qi X0 hx hby d65_0 rfl rfl k) ?_
 obtain ⟨_, T1, L1, X1, hQ1, st1⟩ := own_tc X0 hx hZ hown (ow hw 372) (ow hw 340) (rm57_26 l Z a0 hw cn h0 n0 OLD hk3 hn4 hn5 hn6) (ow hw 341) (ow hw 284) e0 (g := (mkF m 1 #[vR ca, vI 0, vI cn, vU, vU] [.int cn])) rfl (zs hml) (argsL := [.int cn]) (rest := []) (lenOf pd_14 rfl) rfl (hb hby d65_1) (W := 0) rfl
 obtain ⟨o2, kc3, rfl, Nq1, K1, f4, f5, f6⟩ := hQ1
 have N1 := Fr.app N0 Nq1
 have g7 : n0 ≤ o2 := Nat.le_trans (own_osz OLD) f4
 have z8 : h0.size ≤ o2 := Nat.le_trans (Nat.le_refl _) f4
 refine og T1 (mkF m 8 #[vR ca, vI 0, vI cn, vR o2, vI 0] []) (fun _ k => st1.trans (XS.astoreN X1.here hx rfl (hb hby d65_4) rfl rfl (l' := #[vR ca, vI 0, vI cn, vR o2, vU]) rfl (qc X1 hx hby d65_5 rfl (XS.istore X1.here hx rfl (hb hby d65_6) rfl (l' := #[vR ca, vI 0, vI cn, vR o2, vI 0]) rfl k)))) ?_
 have hdn : ([] : List Int32).length = 2 * (0 : Int32).toNatClampNeg := rfl
 have hzz : own_lpz (0 : Int32) cn cn (cn <<< ((1 : Int32) &&& 31)) := ⟨hn7, hn6, Nat.le_refl _, by decide, hk3⟩
 have F9 := (A'.keep K1 nin0)
 have J10 : ∀ (q2 q1 : List Int32), cs = q1 ++ q2 → ∀ (ii : Int32), ii = Int32.ofNat q1.length → ∀ (Tq : State) (Lq : List Loc) (hq' : Heap), own_at2 X1 Tq Lq 1 400 → Tq.heap = hq' → Fr n0 Lq → Keep T1.heap hq' [o2] → Arv Z hq' o2 kc3 .byte (cn <<< ((1 : Int32) &&& 31)) (own_by (([] : List Int32) ++ own_u q1)) (.int 0) → own_Fin p.tables e below (own_PN s (Q65_95 Z ca kca cs cn h0 n0) R65_95.cells R65_95.slots) Tq (mkF m 8 #[vR ca, vI ii, vI cn, vR o2, vI ii] []) := by
  intro q2
  induction q2 with
  | nil =>
   intro q1 hq ii hii Tq Lq hq' Xq eq Nq Kq Vq
   unfold own_at2 at Xq
   rw [List.append_nil] at hq
   subst hq
   rw [List.nil_append] at Vq
   refine og Tq (mkF m 33 #[vR ca, vI ii, vI cn, vR o2, vI ii] [.ref o2]) (fun _ k => XS.iload Xq.here hx rfl (hb hby d65_8) rfl (qi Xq hx hby d65_10 rfl rfl (XS.icmpYes Xq.here hx rfl (pc0 := 11) (pc' := 32) rfl (hb hby d65_11) rfl (flt (own_ixE hz hz4 hk3 hii)).2.1 (by decide) (by decide) (qa Xq hx hby d65_32 rfl rfl rfl k)))) ?_
   have F11 := (f5.keep Kq)
   have KEEP := (((Keep.refl h0 []).trans K1 all0).trans Kq (allS (Or.inr z8) all0))
   exact own_leaveN Xq hlk (v := some (.ref o2)) (own_nr hret) (lb rfl) (lb rfl) (by rw [eq]; exact ⟨o2, kc3, rfl, Nq, KEEP, z8, F11, Vq⟩) (own_ra Xq hx hret rfl rfl rfl (hb hby d65_33))
  | cons cq q2 ih =>
   intro q1 hq ii hii Tq Lq hq' Xq eq Nq Kq Vq
   unfold own_at2 at Xq
   have hdj := own_dj0 hii
   have hcn := hz
   refine og Tq (mkF m 19 #[vR ca, vI ii, vI cn, vR o2, vI ii] [.int ii, .ref ca, .int ii, .ref o2]) (fun _ k => XS.iload Xq.here hx rfl (hb hby d65_8) rfl (qi Xq hx hby d65_10 rfl rfl (qn Xq hx hby d65_11 rfl rfl (tlt (own_ix hz hz4 hq hii).1.2).2.1 (qa Xq hx hby d65_14 rfl rfl rfl (XS.iload Xq.here hx rfl (hb hby d65_15) rfl (qa Xq hx hby d65_17 rfl rfl rfl (qi Xq hx hby d65_18 rfl rfl k))))))) ?_
   have F12 := (F9.keep Kq (ninS (own_ne_lo A'.lt f4) nin0))
   obtain ⟨cl13, Ar13, qr13, Sr13, Nr13, Hr13, Gr13⟩ := id F12
   have hi13 : ¬ (ii < 0 ∨ cl13.slots.size ≤ (ii).toNatClampNeg) := inb_of Sr13 (own_ix hz hz4 hq hii).1
   refine og Tq (mkF m 20 #[vR ca, vI ii, vI cn, vR o2, vI ii] [.int cq, .int ii, .ref o2]) (fun t k => Xq.caload hx (j := ii) (v := (.int cq)) (by rw [eq]; exact Ar13.1) (State.isArrayOf_alike hZ.alike Ar13.2.1) Ar13.2.2 hi13 (Has.at Hr13 hi13 (own_cv hz hz4 hq hii)) (g := (mkF m 19 #[vR ca, vI ii, vI cn, vR o2, vI ii] [.int ii, .ref ca, .int ii, .ref o2])) rfl rfl (hb hby d65_19) t k) ?_
   have F14 := ((OLD.keep K1 all0).keep Kq (allS g7 all0))
   obtain ⟨_, T15, L15, X15, hQ15, st15⟩ := own_tc Xq hx hZ hown (ow hw 328) (ow hw 329) (rm55_1 l Z a0 hw o2 kc3 ((cn <<< ((1 : Int32) &&& 31))) ((([] : List Int32) ++ own_u q1)) ii cq ((2 * ((0 : Int32).toNatClampNeg + q1.length))) hq' n0 F14 Vq (own_pl hdn) Sas SHI (own_pcs hdj hcn hzz hq).1 (own_pcs hdj hcn hzz hq).2.1 (own_pcs hdj hcn hzz hq).2.2.1 g7 SLO (own_pcs hdj hcn hzz hq).2.2.2.1 (own_pcs hdj hcn hzz hq).2.2.2.2.1 (own_pcs hdj hcn hzz hq).2.2.2.2.2) (ow hw 330) (ow hw 284) eq (g := (mkF m 20 #[vR ca, vI ii, vI cn, vR o2, vI ii] [.int cq, .int ii, .ref o2])) rfl (zs hml) (argsL := [.ref o2, .int ii, .int cq]) (rest := []) (lenOf pd_1 rfl) rfl (hb hby d65_20) (W := 0) rfl
   obtain ⟨rfl, Nq15, K15, f16⟩ := hQ15
   have N15 := Fr.app Nq Nq15
   refine og T15 (mkF m 8 #[vR ca, vI (ii + (1 : Int32)), vI cn, vR o2, vI (ii + (1 : Int32))] []) (fun _ k => st15.trans (XS.iinc X15.here hx rfl (hb hby d65_23) rfl (l' := #[vR ca, vI (ii + (1 : Int32)), vI cn, vR o2, vI ii]) rfl (XS.iinc X15.here hx rfl (hb hby d65_26) rfl (l' := #[vR ca, vI (ii + (1 : Int32)), vI cn, vR o2, vI (ii + (1 : Int32))]) rfl (XS.goto X15.here hx rfl (pc0 := 29) (pc' := 8) rfl (hb hby d65_29) (by decide) (by decide) k)))) ?_
   exact ih (q1 ++ [cq]) (by rw [hq, List.append_assoc]; rfl) _ (own_inc1 hii) _ _ _ (own_wk X15 (lb rfl) (lb rfl)) rfl N15 (Kq.trans K15 (allS (Or.inl (List.mem_of_getElem? (i := 0) rfl)) all0)) (own_uc f16)
 exact J10 cs [] rfl _ rfl _ _ _ X1 rfl N1 (Keep.refl _ _) f6
abbrev R66_96 : Room := { frames := 0, cells := 0, slots := 0, locals := 0 }
def Q66_96 (Z : State) (ba : Addr) (ka : ClassId) (ii : Int32) (cs q1 : List Int32) (cq : Int32) (q2 : List Int32) (cn zb : Int32) (h0 : Heap) (n0 : Nat) (v : Option Value) (h : Heap) (L : List Loc) : Prop := (v = some (.int cq) ∧ Fr n0 L ∧ h = h0)
theorem rm66_96 l Z a0 (hw : HW Z a0) ba ka (ii : Int32) (cs : List Int32) (q1 : List Int32) (cq : Int32) (q2 : List Int32) (cn : Int32) (zb : Int32) h0 n0 (OLD : Old Z n0 h0) (A' : Arv Z h0 ba ka .byte zb (own_by (own_u cs)) (.int 0)) (hz : cs.length = cn.toNatClampNeg) (hz2 : cn.toNatClampNeg ≤ 199) (hy : zb.toNatClampNeg = 2 * cn.toNatClampNeg) (hq : cs = q1 ++ cq :: q2) (hii : ii = Int32.ofNat q1.length) (hcc : ¬ cq < 0 ∧ ¬ (65535 : Int32) < cq) (Sas : Sta Z Z.heap cN2 "$assertionsDisabled" "Z" (.int 1)) (SHI : Sta Z Z.heap cN2 "HI_BYTE_SHIFT" "I" (.int 0)) (SLO : Sta Z Z.heap cN2 "LO_BYTE_SHIFT" "I" (.int 8)) :
  own_CN l Z y56 jdk_52_method_5_code 2 (some .char) [] R66_96 #[.ref ba, .int ii] h0 (Q66_96 Z ba ka ii cs q1 cq q2 cn zb h0 n0) := by
 refine own_entryN (plainFor_of_name pn_0) fun p e s m below meth c s₁ hx hby hml hown hnm hret hlk hZ hh X0 e0 => ?_
 have N0 := Fr.nil n0
 rw [ef_10_14 m ba ii]
 obtain ⟨T1, X1, e1, st1⟩ := getS2 X0 hx hZ hown (host := "") (Or.inl (ow hw 331)) Via.refl e0 (Sas.ext OLD.2) (g := (mkF m 0 #[vR ba, vI ii] [])) rfl (hb hby d66_0)
 refine og T1 (mkF m 37 #[vR ba, vI ((ii <<< ((1 : Int32) &&& 31)) + (1 : Int32))] [(.int (ii <<< ((1 : Int32) &&& 31))), .ref ba]) (fun _ k => st1 _ (XS.ifYes X1.here hx rfl (pc0 := 3) (pc' := 28) rfl (hb hby d66_3) rfl ((if0 _ _).trans (feq (by decide : ¬ ((1 : Int32) = (0 : Int32)))).2) (by decide) (by decide) (qi X1 hx hby d66_28 rfl rfl (qc X1 hx hby d66_29 rfl (XS.ishl X1.here hx rfl (hb hby d66_30) rfl (XS.istoreN X1.here hx rfl (hb hby d66_31) rfl (l' := #[vR ba, vI (ii <<< ((1 : Int32) &&& 31))]) rfl (qa X1 hx hby d66_32 rfl rfl rfl (qi X1 hx hby d66_33 rfl rfl (XS.iinc X1.here hx rfl (hb hby d66_34) rfl (l' := #[vR ba, vI ((ii <<< ((1 : Int32) &&& 31)) + (1 : Int32))]) rfl k))))))))) ?_
 obtain ⟨cl2, Ar2, qr2, Sr2, Nr2, Hr2, Gr2⟩ := id A'
 have hi2 : ¬ ((ii <<< ((1 : Int32) &&& 31)) < 0 ∨ cl2.slots.size ≤ ((ii <<< ((1 : Int32) &&& 31))).toNatClampNeg) := inb_of Sr2 (own_ux hz hz2 hy hq hii).1.1
 refine og T1 (mkF m 38 #[vR ba, vI ((ii <<< ((1 : Int32) &&& 31)) + (1 : Int32))] [(.int ((cq >>> ((0 : Int32) &&& 31)).toInt8.toInt32))]) (fun t k => X1.baloadBytes hx (j := (ii <<< ((1 : Int32) &&& 31))) (v := (.int ((cq >>> ((0 : Int32) &&& 31)).toInt8.toInt32))) (by rw [e1]; exact Ar2.1) (State.isArrayOf_alike hZ.alike Ar2.2.1) Ar2.2.2 hi2 (Has.at Hr2 hi2 (own_ux hz hz2 hy hq hii).1.2) (g := (mkF m 37 #[vR ba, vI ((ii <<< ((1 : Int32) &&& 31)) + (1 : Int32))] [(.int (ii <<< ((1 : Int32) &&& 31))), .ref ba])) rfl rfl (hb hby d66_37) t k) ?_
 refine og T1 (mkF m 42 #[vR ba, vI ((ii <<< ((1 : Int32) &&& 31)) + (1 : Int32))] [(.int (((cq >>> ((0 : Int32) &&& 31)).toInt8.toInt32) &&& (255 : Int32)))]) (fun _ k => XS.sipush X1.here hx rfl (hb hby d66_38) (XS.iand X1.here hx rfl (hb hby d66_41) rfl k)) ?_
 obtain ⟨T3, X3, e3, st3⟩ := getS2 X1 hx hZ hown (host := "") (Or.inl (ow hw 332)) Via.refl e1 (SHI.ext OLD.2) (g := (mkF m 42 #[vR ba, vI ((ii <<< ((1 : Int32) &&& 31)) + (1 : Int32))] [(.int (((cq >>> ((0 : Int32) &&& 31)).toInt8.toInt32) &&& (255 : Int32)))])) rfl (hb hby d66_42)
 refine og T3 (mkF m 48 #[vR ba, vI ((ii <<< ((1 : Int32) &&& 31)) + (1 : Int32))] [(.int ((ii <<< ((1 : Int32) &&& 31)) + (1 : Int32))), .ref ba, (.int ((((cq >>> ((0 : Int32) &&& 31)).toInt8.toInt32) &&& (255 : Int32)) <<< ((0 : Int32) &&& 31)))]) (fun _ k => st3 _ (XS.ishl X3.here hx rfl (hb hby d66_45) rfl (qa X3 hx hby d66_46 rfl rfl rfl (qi X3 hx hby d66_47 rfl rfl k)))) ?_
 obtain ⟨cl4, Ar4, qr4, Sr4, Nr4, Hr4, Gr4⟩ := id A'
 have hi4 : ¬ (((ii <<< ((1 : Int32) &&& 31)) + (1 : Int32)) < 0 ∨ cl4.slots.size ≤ (((ii <<< ((1 : Int32) &&& 31)) + (1 : Int32))).toNatClampNeg) := inb_of Sr4 (own_ux hz hz2 hy hq hii).2.1
 refine og T3 (mkF m 49 #[vR ba, vI ((ii <<< ((1 : Int32) &&& 31)) + (1 : Int32))] [(.int ((cq >>> ((8 : Int32) &&& 31)).toInt8.toInt32)), (.int ((((cq >>> ((0 : Int32) &&& 31)).toInt8.toInt32) &&& (255 : Int32)) <<< ((0 : Int32) &&& 31)))]) (fun t k => X3.baloadBytes hx (j := ((ii <<< ((1 : Int32) &&& 31)) + (1 : Int32))) (v := (.int ((cq >>> ((8 : Int32) &&& 31)).toInt8.toInt32))) (by rw [e3]; exact Ar4.1) (State.isArrayOf_alike hZ.alike Ar4.2.1) Ar4.2.2 hi4 (Has.at Hr4 hi4 (own_ux hz hz2 hy hq hii).2.2) (g := (mkF m 48 #[vR ba, vI ((ii <<< ((1 : Int32) &&& 31)) + (1 : Int32))] [(.int ((ii <<< ((1 : Int32) &&& 31)) + (1 : Int32))), .ref ba, (.int ((((cq >>> ((0 : Int32) &&& 31)).toInt8.toInt32) &&& (255 : Int32)) <<< ((0 : Int32) &&& 31)))])) rfl rfl (hb hby d66_48) t k) ?_
 refine og T3 (mkF m 53 #[vR ba, vI ((ii <<< ((1 : Int32) &&& 31)) + (1 : Int32))] [(.int (((cq >>> ((8 : Int32) &&& 31)).toInt8.toInt32) &&& (255 : Int32))), (.int ((((cq >>> ((0 : Int32) &&& 31)).toInt8.toInt32) &&& (255 : Int32)) <<< ((0 : Int32) &&& 31)))]) (fun _ k => XS.sipush X3.here hx rfl (hb hby d66_49) (XS.iand X3.here hx rfl (hb hby d66_52) rfl k)) ?_
 obtain ⟨T5, X5, e5, st5⟩ := getS2 X3 hx hZ hown (host := "") (Or.inl (ow hw 333)) Via.refl e3 (SLO.ext OLD.2) (g := (mkF m 53 #[vR ba, vI ((ii <<< ((1 : Int32) &&& 31)) + (1 : Int32))] [(.int (((cq >>> ((8 : Int32) &&& 31)).toInt8.toInt32) &&& (255 : Int32))), (.int ((((cq >>> ((0 : Int32) &&& 31)).toInt8.toInt32) &&& (255 : Int32)) <<< ((0 : Int32) &&& 31)))])) rfl (hb hby d66_53)
 refine og T5 (mkF m 59 #[vR ba, vI ((ii <<< ((1 : Int32) &&& 31)) + (1 : Int32))] [(.int ((((((cq >>> ((0 : Int32) &&& 31)).toInt8.toInt32) &&& (255 : Int32)) <<< ((0 : Int32) &&& 31)) ||| ((((cq >>> ((8 : Int32) &&& 31)).toInt8.toInt32) &&& (255 : Int32)) <<< ((8 : Int32) &&& 31))).toUInt32.toUInt16.toUInt32.toInt32))]) (fun _ k => st5 _ (XS.ishl X5.here hx rfl (hb hby d66_56) rfl (XS.ior X5.here hx rfl (hb hby d66_57) rfl (XS.i2c X5.here hx rfl (hb hby d66_58) rfl k)))) ?_
 exact own_leaveN X5 hlk (v := some (.int (nar .char ((((((cq >>> ((0 : Int32) &&& 31)).toInt8.toInt32) &&& (255 : Int32)) <<< ((0 : Int32) &&& 31)) ||| ((((cq >>> ((8 : Int32) &&& 31)).toInt8.toInt32) &&& (255 : Int32)) <<< ((8 : Int32) &&& 31))).toUInt32.toUInt16.toUInt32.toInt32)))) (own_nr hret) (lb rfl) (lb rfl) (by rw [e5]; exact ⟨(by rw [show (nar .char ((((((cq >>> ((0 : Int32) &&& 31)).toInt8.toInt32) &&& (255 : Int32)) <<< ((0 : Int32) &&& 31)) ||| ((((cq >>> ((8 : Int32) &&& 31)).toInt8.toInt32) &&& (255 : Int32)) <<< ((8 : Int32) &&& 31))).toUInt32.toUInt16.toUInt32.toInt32)) = ((((((cq >>> ((0 : Int32) &&& 31)).toInt8.toInt32) &&& (255 : Int32)) <<< ((0 : Int32) &&& 31)) ||| ((((cq >>> ((8 : Int32) &&& 31)).toInt8.toInt32) &&& (255 : Int32)) <<< ((8 : Int32) &&& 31))).toUInt32.toUInt16.toUInt32.toInt32) from (own_nc16 _)]; exact congrArg (fun z => some (Value.int z)) (Eq.trans (congrArg (nar .char) (own_gch hcc)) (own_nc hcc))), N0, rfl⟩) (fun fs hr => retN X5 hx (t := .char) hret (by simp) (hb hby d66_59) hr)
abbrev R44_93 : Room := { frames := 3, cells := 2, slots := 800, locals := 40 }
def Q44_93 (Z : State) (ca : Addr) (kca : ClassId) (cs : List Int32) (cn : Int32) (h0 : Heap) (n0 : Nat) (v : Option Value) (h : Heap) (L : List Loc) : Prop := (∃ (eq0 : Addr) (eq1 : ClassId), v = some (.ref eq0) ∧ Fr n0 L ∧ Keep h0 h [] ∧ h0.size ≤ eq0 ∧ Exa Z h eq0 "[B" ∧ Arv Z h eq0 eq1 .byte cn (own_by cs) (.int 0) ∧ (own_lat cs)) ∨ (∃ (eq0 : Addr) (eq1 : ClassId), v = some (.ref eq0) ∧ Fr n0 L ∧ Keep h0 h [] ∧ h0.size ≤ eq0 ∧ Exa Z h eq0 "[B" ∧ Arv Z h eq0 eq1 .byte (cn <<< ((1 : Int32) &&& 31)) (own_by (own_u cs)) (.int 0) ∧ (∃ c ∈ cs, (255 : Int32) < c))
abbrev C44_93 (cn : Int32) : Prop := (¬ (cn < (0 : Int32))) ∧ (cn.toNatClampNeg ≤ 400) ∧ (cn < (1073741823 : Int32)) ∧ (¬ ((cn <<< ((1 : Int32) &&& 31)) < (0 : Int32))) ∧ ((cn <<< ((1 : Int32) &&& 31)).toNatClampNeg ≤ 400) ∧ (2 * ((0 : Int32).toNatClampNeg + cn.toNatClampNeg) ≤ (cn <<< ((1 : Int32) &&& 31)).toNatClampNeg) ∧ (cn.toNatClampNeg ≤ 199) ∧ ((cn <<< ((1 : Int32) &&& 31)).toNatClampNeg = 2 * cn.toNatClampNeg)
theorem rm44_93 l Z a0 (hw : HW Z a0) ca kca (cs : List Int32) (cn : Int32) h0 n0 (OLD : Old Z n0 h0) (A' : Arv Z h0 ca kca .char cn (own_ci cs) (.int 0)) (hz : cs.length = cn.toNatClampNeg) (hz4 : cn.toNatClampNeg ≤ 400) (hch : ∀ c ∈ cs, ¬ c < 0 ∧ ¬ (65535 : Int32) < c) (Sas : Sta Z Z.heap cN2 "$assertionsDisabled" "Z" (.int 1)) (SHI : Sta Z Z.heap cN2 "HI_BYTE_SHIFT" "I" (.int 0)) (SLO : Sta Z Z.heap cN2 "LO_BYTE_SHIFT" "I" (.int 8)) (hC : C44_93 cn) :
  own_CN l Z y57 jdk_52_method_16_code 6 (some (.array .byte)) [] R44_93 #[.ref ca, .int 0, .int cn] h0 (Q44_93 Z ca kca cs cn h0 n0) := by
 refine own_entryN (plainFor_of_name pn_0) fun p e s m below meth c s₁ hx hby hml hown hnm hret hlk hZ hh X0 e0 => ?_
 obtain ⟨hk3, hn5, hn9, hn10, hn11, hn12, hn13, hn14⟩ := hC
 have N0 := Fr.nil n0
 rw [ef_44_93 m ca cn]
 refine og s₁ (mkF m 1 #[vR ca, vI 0, vI cn, vU, vU, vU] [.int cn]) (fun _ k => qi X0 hx hby d44_0 rfl rfl k) ?_
 obtain ⟨T1, h1, k1, X1, e1, E1, A1, Ea1, st1⟩ := newPE X0 hx hZ (ow hw 17) e0 (g := (mkF m 1 #[vR ca, vI 0, vI cn, vU, vU, vU] [.int cn])) rfl (hb hby d44_1) rfl hk3 (cap := 400) hn5 (lb rfl) (lb rfl) (lb rfl) (ad := "[B") (by decide)
 obtain ⟨b1, gb1⟩ : ∃ z, z = h0.size := ⟨_, rfl⟩
 rw [← gb1] at A1 Ea1 st1
 have g2 : n0 ≤ b1 := Nat.le_trans (own_osz OLD) (Nat.le_of_eq gb1.symm)
 have z3 : h0.size ≤ b1 := Nat.le_trans (Nat.le_refl _) (Nat.le_of_eq gb1.symm)
 have V1 : Arv Z h1 b1 k1 .byte cn (own_by ([] : List Int32)) (.int 0) := Arv.new A1 hk3
 refine og T1 (mkF m 9 #[vR ca, vI 0, vI cn, vR b1, vU, vU] [.int cn, .int 0, .ref b1, .int 0, .ref ca]) (fun _ k => st1 _ (XS.astoreN X1.here hx rfl (hb hby d44_3) rfl rfl (l' := #[vR ca, vI 0, vI cn, vR b1, vU, vU]) rfl (qa X1 hx hby d44_4 rfl rfl rfl (qi X1 hx hby d44_5 rfl rfl (qa X1 hx hby d44_6 rfl rfl rfl (qc X1 hx hby d44_7 rfl (qi X1 hx hby d44_8 rfl rfl k))))))) ?_
 have F4 := (A'.ext E1)
 have F5 := (OLD.ext E1)
 obtain ⟨_, T6, L6, X6, hQ6, st6⟩ := own_tc X1 hx hZ hown (ow hw 286) (ow hw 287) (rm45_94 l Z a0 hw ca kca cs cn b1 k1 h1 n0 F5 F4 V1 hz hz4 hch (own_ne_lo A'.lt (Nat.le_of_eq gb1.symm)) g2 hk3) (ow hw 288) (ow hw 284) e1 (g := (mkF m 9 #[vR ca, vI 0, vI cn, vR b1, vU, vU] [.int cn, .int 0, .ref b1, .int 0, .ref ca])) rfl (zs hml) (argsL := [.ref ca, .int 0, .ref b1, .int 0, .int cn]) (rest := []) (lenOf pd_39 rfl) rfl (hb hby d44_9) (W := 0) rfl
 rcases hQ6 with hQ6 | hQ6
 ·
  obtain ⟨rfl, Nq6, K6, f7, f8⟩ := hQ6
  have N6 := Fr.app N0 Nq6
  refine og T6 (mkF m 17 #[vR ca, vI 0, vI cn, vR b1, vI cn, vU] [.int cn, .int cn]) (fun _ k => st6.trans (XS.istore X6.here hx rfl (hb hby d44_12) rfl (l' := #[vR ca, vI 0, vI cn, vR b1, vI cn, vU]) rfl (XS.iload X6.here hx rfl (hb hby d44_14) rfl (qi X6 hx hby d44_16 rfl rfl k)))) ?_
  refine og T6 (mkF m 57 #[vR ca, vI 0, vI cn, vR b1, vI cn, vU] []) (fun _ k => XS.icmpYes X6.here hx rfl (pc0 := 17) (pc' := 57) rfl (hb hby d44_17) rfl (teq (rfl : cn = cn)).1 (by decide) (by decide) k) ?_
  refine og T6 (mkF m 58 #[vR ca, vI 0, vI cn, vR b1, vI cn, vU] [.ref b1]) (fun _ k => qa X6 hx hby d44_57 rfl rfl rfl k) ?_
  have F9 := (Ea1.keep K6)
  have KEEP := (((Keep.refl h0 []).ext E1).trans K6 (allS (Or.inr z3) all0))
  exact own_leaveN X6 hlk (v := some (.ref b1)) (own_nr hret) (lb rfl) (lb rfl) (by exact (Or.inl ⟨b1, k1, rfl, N6, KEEP, z3, F9, f7, f8⟩)) (own_ra X6 hx hret rfl rfl rfl (hb hby d44_58))
 ·
  obtain ⟨v10, v11, v12, hc13, rfl, Nq6, K6, f14, f15⟩ := hQ6
  have N6 := Fr.app N0 Nq6
  refine og T6 (mkF m 17 #[vR ca, vI 0, vI cn, vR b1, vI (Int32.ofNat v10.length), vU] [.int cn, (.int (Int32.ofNat v10.length))]) (fun _ k => st6.trans (XS.istore X6.here hx rfl (hb hby d44_12) rfl (l' := #[vR ca, vI 0, vI cn, vR b1, vI (Int32.ofNat v10.length), vU]) rfl (XS.iload X6.here hx rfl (hb hby d44_14) rfl (qi X6 hx hby d44_16 rfl rfl k)))) ?_
  refine og T6 (mkF m 23 #[vR ca, vI 0, vI cn, vR b1, vI (Int32.ofNat v10.length), vU] [.int cn, .int 0, .ref ca]) (fun _ k => qn X6 hx hby d44_17 rfl rfl (feq (own_ixne hz hz4 f15)).1 (qa X6 hx hby d44_20 rfl rfl rfl (qi X6 hx hby d44_21 rfl rfl (qi X6 hx hby d44_22 rfl rfl k)))) ?_
  have F16 := (F4.keep K6 (ninS (own_ne_lo A'.lt (Nat.le_of_eq gb1.symm)) nin0))
  have F17 := (F5.keep K6 (allS g2 all0))
  obtain ⟨_, T18, L18, X18, hQ18, st18⟩ := own_tc X6 hx hZ hown (ow hw 369) (ow hw 370) (rm65_95 l Z a0 hw ca kca cs cn T6.heap n0 F17 F16 hz hz4 Sas SHI SLO ⟨hk3, hn9, hn10, hn11, hn12⟩) (ow hw 371) (ow hw 284) rfl (g := (mkF m 23 #[vR ca, vI 0, vI cn, vR b1, vI (Int32.ofNat v10.length), vU] [.int cn, .int 0, .ref ca])) rfl (zs hml) (argsL := [.ref ca, .int 0, .int cn]) (rest := []) (lenOf pd_40 rfl) rfl (hb hby d44_23) (W := 0) rfl
  obtain ⟨o19, kc20, rfl, Nq18, K18, f21, f22, f23⟩ := hQ18
  have N18 := Fr.app N6 Nq18
  have g24 : n0 ≤ o19 := Nat.le_trans (own_osz F17) f21
  have F26 := (Nat.le_trans (Nat.le_trans (Nat.le_refl _) E1.1) K6.1)
  have z25 : h0.size ≤ o19 := Nat.le_trans F26 f21
  refine og T18 (mkF m 32 #[vR ca, vI 0, vI cn, vR b1, vI (Int32.ofNat v10.length), vR o19] [(.int (Int32.ofNat v10.length)), .ref o19]) (fun _ k => st18.trans (XS.astore X18.here hx rfl (hb hby d44_26) rfl rfl (l' := #[vR ca, vI 0, vI cn, vR b1, vI (Int32.ofNat v10.length), vR o19]) rfl (XS.aload X18.here hx rfl (hb hby d44_28) rfl rfl (XS.iload X18.here hx rfl (hb hby d44_30) rfl k)))) ?_
  have F27 := (F17.keep K18 all0)
  obtain ⟨_, T28, L28, X28, hQ28, st28⟩ := own_tc X18 hx hZ hown (ow hw 373) (ow hw 374) (rm66_96 l Z a0 hw o19 kc20 ((Int32.ofNat v10.length)) cs v10 v11 v12 cn ((cn <<< ((1 : Int32) &&& 31))) T18.heap n0 F27 f23 hz hn13 hn14 f15 rfl (own_chm hch f15) Sas SHI SLO) (ow hw 375) (ow hw 284) rfl (g := (mkF m 32 #[vR ca, vI 0, vI cn, vR b1, vI (Int32.ofNat v10.length), vR o19] [(.int (Int32.ofNat v10.length)), .ref o19])) rfl (zs hml) (argsL := [.ref o19, (.int (Int32.ofNat v10.length))]) (rest := []) (lenOf pd_41 rfl) rfl (hb hby d44_32) (W := 0) rfl
  obtain ⟨rfl, Nq28, eq28⟩ := hQ28
  have N28 := Fr.app N18 Nq28
  refine og T28 (mkF m 54 #[vR ca, vI 0, vI cn, vR b1, vI (Int32.ofNat v10.length), vR o19] []) (fun _ k => st28.trans (XS.sipush X28.here hx rfl (hb hby d44_35) (XS.icmpYes X28.here hx rfl (pc0 := 38) (pc' := 54) rfl (hb hby d44_38) rfl (tlt hc13).2.2.1 (by decide) (by decide) k))) ?_
  refine og T28 (mkF m 56 #[vR ca, vI 0, vI cn, vR b1, vI (Int32.ofNat v10.length), vR o19] [.ref o19]) (fun _ k => XS.aload X28.here hx rfl (hb hby d44_54) rfl rfl k) ?_
  have KEEP := ((((Keep.refl h0 []).ext E1).trans K6 (allS (Or.inr z3) all0)).trans K18 all0)
  exact own_leaveN X28 hlk (v := some (.ref o19)) (own_nr hret) (lb rfl) (lb rfl) (by rw [eq28]; exact (Or.inr ⟨o19, kc20, rfl, N28, KEEP, z25, f22, f23, (own_nlx f15 hc13)⟩)) (own_ra X28 hx hret rfl rfl rfl (hb hby d44_56))
abbrev R46_97 : Room := { frames := 0, cells := 0, slots := 0, locals := 0 }
def Q46_97 (Z : State) (ba : Addr) (ka : ClassId) (zb : Int32) (vb : List Value) (cn cd : Int32) (h0 : Heap) (n0 : Nat) (v : Option Value) (h : Heap) (L : List Loc) : Prop := (v = some (.int cd) ∧ Fr n0 L ∧ h = h0)
abbrev C46_97 (zb : Int32) (cn : Int32) (cd : Int32) : Prop := (((((cn - zb).toUInt32 >>> ((31 : Int32) &&& 31).toUInt32).toInt32).toInt8.toInt32) = cd)
theorem rm46_97 l Z a0 (hw : HW Z a0) ba ka (zb : Int32) (vb : List Value) (cn : Int32) (cd : Int32) h0 n0 (OLD : Old Z n0 h0) (A' : Arv Z h0 ba ka .byte zb vb (.int 0)) (hC : C46_97 zb cn cd) :
  own_CN l Z y58 jdk_52_method_15_code 2 (some .byte) [] R46_97 #[.ref ba, .int cn] h0 (Q46_97 Z ba ka zb vb cn cd h0 n0) := by
 refine own_entryN (plainFor_of_name pn_0) fun p e s m below meth c s₁ hx hby hml hown hnm hret hlk hZ hh X0 e0 => ?_
 have hn1 := hC
 have N0 := Fr.nil n0
 rw [ef_10_14 m ba cn]
 refine og s₁ (mkF m 2 #[vR ba, vI cn] [.ref ba, .int cn]) (fun _ k => qi X0 hx hby d46_0 rfl rfl (qa X0 hx hby d46_1 rfl rfl rfl k)) ?_
 obtain ⟨cl1, Ar1, -, Sr1, Nr1, -, -⟩ := id A'
 refine og s₁ (mkF m 3 #[vR ba, vI cn] [.int zb, .int cn]) (fun t k => X0.arraylength hx (by rw [e0]; exact Ar1.1) (State.isArrayOf_alike hZ.alike Ar1.2.1) (g := (mkF m 2 #[vR ba, vI cn] [.ref ba, .int cn])) rfl rfl (hb hby d46_2) t (by rw [len_of Sr1 Nr1]; exact k)) ?_
 refine og s₁ (mkF m 8 #[vR ba, vI cn] [(.int ((((cn - zb).toUInt32 >>> ((31 : Int32) &&& 31).toUInt32).toInt32).toInt8.toInt32))]) (fun _ k => XS.isub X0.here hx rfl (hb hby d46_3) rfl (qb X0 hx hby d46_4 rfl (XS.iushr X0.here hx rfl (hb hby d46_6) rfl (XS.i2b X0.here hx rfl (hb hby d46_7) rfl k)))) ?_
 exact own_leaveN X0 hlk (v := some (.int (nar .byte ((((cn - zb).toUInt32 >>> ((31 : Int32) &&& 31).toUInt32).toInt32).toInt8.toInt32)))) (own_nr hret) (lb rfl) (lb rfl) (by rw [e0]; exact ⟨(by rw [show (nar .byte ((((cn - zb).toUInt32 >>> ((31 : Int32) &&& 31).toUInt32).toInt32).toInt8.toInt32)) = ((((cn - zb).toUInt32 >>> ((31 : Int32) &&& 31).toUInt32).toInt32).toInt8.toInt32) from (own_b8 _)]; rw [show ((((cn - zb).toUInt32 >>> ((31 : Int32) &&& 31).toUInt32).toInt32).toInt8.toInt32) = cd from hn1]), N0, rfl⟩) (fun fs hr => retN X0 hx (t := .byte) hret (by simp) (hb hby d46_8) hr)
abbrev R43_92 : Room := { frames := 4, cells := 2, slots := 800, locals := 57 }
def Q43_92 (Z : State) (sx ca : Addr) (kca : ClassId) (cs : List Int32) (cn G1 : Int32) (h0 : Heap) (n0 : Nat) (v : Option Value) (h : Heap) (L : List Loc) : Prop := (∃ (eq0 : Addr) (eq1 : ClassId), v = none ∧ Fr n0 L ∧ Keep h0 h [sx] ∧ h0.size ≤ eq0 ∧ own_st Z h sx eq0 cs cn)
abbrev C43_92 (cn : Int32) : Prop := (¬ (cn < (0 : Int32))) ∧ (¬ (cn = (0 : Int32))) ∧ (cn.toNatClampNeg ≤ 400) ∧ (cn < (1073741823 : Int32)) ∧ (¬ ((cn <<< ((1 : Int32) &&& 31)) < (0 : Int32))) ∧ ((cn <<< ((1 : Int32) &&& 31)).toNatClampNeg ≤ 400) ∧ (2 * ((0 : Int32).toNatClampNeg + cn.toNatClampNeg) ≤ (cn <<< ((1 : Int32) &&& 31)).toNatClampNeg) ∧ (cn.toNatClampNeg ≤ 199) ∧ ((cn <<< ((1 : Int32) &&& 31)).toNatClampNeg = 2 * cn.toNatClampNeg) ∧ (((((cn - cn).toUInt32 >>> ((31 : Int32) &&& 31).toUInt32).toInt32).toInt8.toInt32) = (0 : Int32)) ∧ (((((cn - (cn <<< ((1 : Int32) &&& 31))).toUInt32 >>> ((31 : Int32) &&& 31).toUInt32).toInt32).toInt8.toInt32) = (1 : Int32))
theorem rm43_92 l Z a0 (hw : HW Z a0) sx ca kca (cs : List Int32) (cn : Int32) (G1 : Int32) h0 n0 (OLD : Old Z n0 h0) (A' : Exa Z h0 sx cN1) (B' : Fld Z h0 sx cN1 "value" "[B" .null) (C' : Fld Z h0 sx cN1 "coder" "B" (.int 0)) (D' : Arv Z h0 ca kca .char cn (own_ci cs) (.int 0)) (hz : cs.length = cn.toNatClampNeg) (hz4 : cn.toNatClampNeg ≤ 400) (hch : ∀ c ∈ cs, ¬ c < 0 ∧ ¬ (65535 : Int32) < c) (O2 : Sta Z Z.heap cN1 "COMPACT_STRINGS" "Z" (.int G1)) (P5 : ¬ (G1 = (0 : Int32))) (Sas : Sta Z Z.heap cN2 "$assertionsDisabled" "Z" (.int 1)) (SHI : Sta Z Z.heap cN2 "HI_BYTE_SHIFT" "I" (.int 0)) (SLO : Sta Z Z.heap cN2 "LO_BYTE_SHIFT" "I" (.int 8)) (ge_sx : n0 ≤ sx) (hC : C43_92 cn) :
  own_CN l Z y59 jdk_42_method_149_code 6 none [] R43_92 #[.ref sx, .ref ca, .int 0, .int cn, .null] h0 (Q43_92 Z sx ca kca cs cn G1 h0 n0) := by
 refine own_entryN (plainFor_of_name pn_2) fun p e s m below meth c s₁ hx hby hml hown hnm hret hlk hZ hh X0 e0 => ?_
 obtain ⟨hk6, hn8, hn14, hn15, hn16, hn17, hn18, hn19, hn20, hn21, hn23⟩ := hC
 have N0 := Fr.nil n0
 rw [ef_43_92 m sx ca cn]
 refine og s₁ (mkF m 1 #[vR sx, vR ca, vI 0, vI cn, vN, vU] [.ref sx]) (fun _ k => qa X0 hx hby d43_0 rfl rfl rfl k) ?_
 obtain ⟨T1, X1, e1, st1⟩ := initO X0 hx hZ hown (ow hw 22) (ow hw 23) (ow hw 24) e0 (g := (mkF m 1 #[vR sx, vR ca, vI 0, vI cn, vN, vU] [.ref sx])) rfl (zs hml) rfl (hb hby d43_1) (by decide) (W := 0) (lb rfl) (by decide)
 refine og T1 (mkF m 27 #[vR sx, vR ca, vI 0, vI cn, vN, vU] []) (fun _ k => st1 _ (qi X1 hx hby d43_4 rfl rfl (XS.ifYes X1.here hx rfl (pc0 := 5) (pc' := 27) rfl (hb hby d43_5) rfl ((if0 _ _).trans (feq hn8).2) (by decide) (by decide) k))) ?_
 obtain ⟨T2, X2, e2, st2⟩ := getS2 X1 hx hZ hown (host := "") (Or.inl (ow hw 7)) Via.refl e1 (O2.ext OLD.2) (g := (mkF m 27 #[vR sx, vR ca, vI 0, vI cn, vN, vU] [])) rfl (hb hby d43_27)
 refine og T2 (mkF m 36 #[vR sx, vR ca, vI 0, vI cn, vN, vU] [.int cn, .int 0, .ref ca]) (fun _ k => st2 _ (XS.ifNo X2.here hx rfl (hb hby d43_30) rfl ((if0 _ _).trans (feq P5).1) (qa X2 hx hby d43_33 rfl rfl rfl (qi X2 hx hby d43_34 rfl rfl (qi X2 hx hby d43_35 rfl rfl k))))) ?_
 obtain ⟨_, T3, L3, X3, hQ3, st3⟩ := own_tc X2 hx hZ hown (ow hw 282) (ow hw 283) (rm44_93 l Z a0 hw ca kca cs cn h0 n0 OLD D' hz hz4 hch Sas SHI SLO ⟨hk6, hn14, hn15, hn16, hn17, hn18, hn19, hn20⟩) (ow hw 285) (ow hw 284) e2 (g := (mkF m 36 #[vR sx, vR ca, vI 0, vI cn, vN, vU] [.int cn, .int 0, .ref ca])) rfl (zs hml) (argsL := [.ref ca, .int 0, .int cn]) (rest := []) (lenOf pd_40 rfl) rfl (hb hby d43_36) (W := 0) rfl
 rcases hQ3 with hQ3 | hQ3
 ·
  obtain ⟨o4, kc5, rfl, Nq3, K3, f6, f7, f8, f9⟩ := hQ3
  have N3 := Fr.app N0 Nq3
  have g10 : n0 ≤ o4 := Nat.le_trans (own_osz OLD) f6
  have z11 : h0.size ≤ o4 := Nat.le_trans (Nat.le_refl _) f6
  refine og T3 (mkF m 41 #[vR sx, vR ca, vI 0, vI cn, vN, vR o4] []) (fun _ k => st3.trans (XS.astore X3.here hx rfl (hb hby d43_39) rfl rfl (l' := #[vR sx, vR ca, vI 0, vI cn, vN, vR o4]) rfl k)) ?_
  refine og T3 (mkF m 45 #[vR sx, vR ca, vI 0, vI cn, vN, vR o4] [.int cn, .ref o4, .ref sx]) (fun _ k => qa X3 hx hby d43_41 rfl rfl rfl (XS.aload X3.here hx rfl (hb hby d43_42) rfl rfl (qi X3 hx hby d43_44 rfl rfl k))) ?_
  have F12 := (OLD.keep K3 all0)
  obtain ⟨_, T13, L13, X13, hQ13, st13⟩ := own_tc X3 hx hZ hown (ow hw 289) (ow hw 290) (rm46_97 l Z a0 hw o4 kc5 cn ((own_by cs)) cn ((0 : Int32)) T3.heap n0 F12 f8 hn21) (ow hw 291) (ow hw 284) rfl (g := (mkF m 45 #[vR sx, vR ca, vI 0, vI cn, vN, vR o4] [.int cn, .ref o4, .ref sx])) rfl (zs hml) (argsL := [.ref o4, .int cn]) (rest := [.ref sx]) (lenOf pd_42 rfl) rfl (hb hby d43_45) (W := 1) rfl
  obtain ⟨rfl, Nq13, eq13⟩ := hQ13
  have N13 := Fr.app N3 Nq13
  refine ot T13 (mkF m 48 #[vR sx, vR ca, vI 0, vI cn, vN, vR o4] [.int 0, .ref sx]) st13 ?_
  have F14 := (A'.keep K3)
  have F15 := (C'.keep K3 nin0)
  obtain ⟨T16, h16, X16, e16, W16, st16⟩ := putFN X13 hx hZ hown (ow hw 27) Via.refl eq13 F15 F14 (Or.inr ⟨(ow hw 28), rfl, hnm⟩) (ow hw 13) (ty := .byte) (v' := (.int (nar .byte (0 : Int32)))) (by decide) rfl (fits_nar_byte _) (g := (mkF m 48 #[vR sx, vR ca, vI 0, vI cn, vN, vR o4] [.int 0, .ref sx])) rfl rfl (hb hby d43_48)
  rw [show nar .byte (0 : Int32) = (0 : Int32) from rfl] at W16
  have Fw16 := F15.same W16
  have N16 := Fr.snoc X16 N13 ge_sx
  refine og T16 (mkF m 54 #[vR sx, vR ca, vI 0, vI cn, vN, vR o4] [.ref o4, .ref sx]) (fun _ k => st16 _ (qa X16 hx hby d43_51 rfl rfl rfl (XS.aload X16.here hx rfl (hb hby d43_52) rfl rfl k))) ?_
  have F17 := (F14.wr W16)
  have F18 := ((B'.keep K3 nin0).other W16 (Or.inr (slot_ne (Or.inr (ow hw 26)) (Or.inr (ow hw 28)) (by decide) (t := (.array .byte)) (t' := .byte) (by decide) (by decide))))
  obtain ⟨T19, h19, X19, e19, W19, st19⟩ := putF X16 hx hZ hown (host := "") (Or.inl (ow hw 25)) Via.refl e16 F18 F17 (Or.inr ⟨(ow hw 26), rfl, hnm⟩) (ow hw 13) (ty := (.array .byte)) (by decide) rfl rfl (g := (mkF m 54 #[vR sx, vR ca, vI 0, vI cn, vN, vR o4] [.ref o4, .ref sx])) rfl rfl (hb hby d43_54)
  have Fw19 := F18.same W19
  have N19 := Fr.snoc X19 N16 ge_sx
  refine og T19 (mkF m 57 #[vR sx, vR ca, vI 0, vI cn, vN, vR o4] []) st19 ?_
  have F20 := ((f8.other W16 (Ne.symm (own_ne_lo A'.lt f6))).other W19 (Ne.symm (own_ne_lo A'.lt f6)))
  have F22 := (F17.wr W19)
  have F23 := (Fw16.other W19 (Or.inr (slot_ne (Or.inr (ow hw 28)) (Or.inr (ow hw 26)) (by decide) (t := .byte) (t' := (.array .byte)) (by decide) (by decide))))
  have S21 : own_st Z h19 sx o4 cs cn := own_stL F22 Fw19 hz F23 F20 f9
  have KEEP := ((((Keep.refl h0 [sx]).trans K3 all0).wr W16 (Or.inl (List.mem_of_getElem? (i := 0) rfl))).wr W19 (Or.inl (List.mem_of_getElem? (i := 0) rfl)))
  exact own_leaveN X19 hlk (v := none) (fun _ => rfl) (lb rfl) (lb rfl) (by rw [e19]; exact ⟨o4, kc5, rfl, N19, KEEP, z11, S21⟩) (fun fs hr => X19.returnOut hx hret (hb hby d43_57) hr)
 ·
  obtain ⟨o24, kc25, rfl, Nq3, K3, f26, f27, f28, f29⟩ := hQ3
  have N3 := Fr.app N0 Nq3
  have g30 : n0 ≤ o24 := Nat.le_trans (own_osz OLD) f26
  have z31 : h0.size ≤ o24 := Nat.le_trans (Nat.le_refl _) f26
  refine og T3 (mkF m 41 #[vR sx, vR ca, vI 0, vI cn, vN, vR o24] []) (fun _ k => st3.trans (XS.astore X3.here hx rfl (hb hby d43_39) rfl rfl (l' := #[vR sx, vR ca, vI 0, vI cn, vN, vR o24]) rfl k)) ?_
  refine og T3 (mkF m 45 #[vR sx, vR ca, vI 0, vI cn, vN, vR o24] [.int cn, .ref o24, .ref sx]) (fun _ k => qa X3 hx hby d43_41 rfl rfl rfl (XS.aload X3.here hx rfl (hb hby d43_42) rfl rfl (qi X3 hx hby d43_44 rfl rfl k))) ?_
  have F32 := (OLD.keep K3 all0)
  obtain ⟨_, T33, L33, X33, hQ33, st33⟩ := own_tc X3 hx hZ hown (ow hw 289) (ow hw 290) (rm46_97 l Z a0 hw o24 kc25 ((cn <<< ((1 : Int32) &&& 31))) ((own_by (own_u cs))) cn ((1 : Int32)) T3.heap n0 F32 f28 hn23) (ow hw 291) (ow hw 284) rfl (g := (mkF m 45 #[vR sx, vR ca, vI 0, vI cn, vN, vR o24] [.int cn, .ref o24, .ref sx])) rfl (zs hml) (argsL := [.ref o24, .int cn]) (rest := [.ref sx]) (lenOf pd_42 rfl) rfl (hb hby d43_45) (W := 1) rfl
  obtain ⟨rfl, Nq33, eq33⟩ := hQ33
  have N33 := Fr.app N3 Nq33
  refine ot T33 (mkF m 48 #[vR sx, vR ca, vI 0, vI cn, vN, vR o24] [.int 1, .ref sx]) st33 ?_
  have F34 := (A'.keep K3)
  have F35 := (C'.keep K3 nin0)
  obtain ⟨T36, h36, X36, e36, W36, st36⟩ := putFN X33 hx hZ hown (ow hw 27) Via.refl eq33 F35 F34 (Or.inr ⟨(ow hw 28), rfl, hnm⟩) (ow hw 13) (ty := .byte) (v' := (.int (nar .byte (1 : Int32)))) (by decide) rfl (fits_nar_byte _) (g := (mkF m 48 #[vR sx, vR ca, vI 0, vI cn, vN, vR o24] [.int 1, .ref sx])) rfl rfl (hb hby d43_48)
  rw [show nar .byte (1 : Int32) = (1 : Int32) from rfl] at W36
  have Fw36 := F35.same W36
  have N36 := Fr.snoc X36 N33 ge_sx
  refine og T36 (mkF m 54 #[vR sx, vR ca, vI 0, vI cn, vN, vR o24] [.ref o24, .ref sx]) (fun _ k => st36 _ (qa X36 hx hby d43_51 rfl rfl rfl (XS.aload X36.here hx rfl (hb hby d43_52) rfl rfl k))) ?_
  have F37 := (F34.wr W36)
  have F38 := ((B'.keep K3 nin0).other W36 (Or.inr (slot_ne (Or.inr (ow hw 26)) (Or.inr (ow hw 28)) (by decide) (t := (.array .byte)) (t' := .byte) (by decide) (by decide))))
  obtain ⟨T39, h39, X39, e39, W39, st39⟩ := putF X36 hx hZ hown (host := "") (Or.inl (ow hw 25)) Via.refl e36 F38 F37 (Or.inr ⟨(ow hw 26), rfl, hnm⟩) (ow hw 13) (ty := (.array .byte)) (by decide) rfl rfl (g := (mkF m 54 #[vR sx, vR ca, vI 0, vI cn, vN, vR o24] [.ref o24, .ref sx])) rfl rfl (hb hby d43_54)
  have Fw39 := F38.same W39
  have N39 := Fr.snoc X39 N36 ge_sx
  refine og T39 (mkF m 57 #[vR sx, vR ca, vI 0, vI cn, vN, vR o24] []) st39 ?_
  have F40 := ((f28.other W36 (Ne.symm (own_ne_lo A'.lt f26))).other W39 (Ne.symm (own_ne_lo A'.lt f26)))
  have F42 := (F37.wr W39)
  have F43 := (Fw36.other W39 (Or.inr (slot_ne (Or.inr (ow hw 28)) (Or.inr (ow hw 26)) (by decide) (t := .byte) (t' := (.array .byte)) (by decide) (by decide))))
  have S41 : own_st Z h39 sx o24 cs cn := own_stU F42 Fw39 hz F43 F40 f29
  have KEEP := ((((Keep.refl h0 [sx]).trans K3 all0).wr W36 (Or.inl (List.mem_of_getElem? (i := 0) rfl))).wr W39 (Or.inl (List.mem_of_getElem? (i := 0) rfl)))
  exact own_leaveN X39 hlk (v := none) (fun _ => rfl) (lb rfl) (lb rfl) (by rw [e39]; exact ⟨o24, kc25, rfl, N39, KEEP, z31, S41⟩) (fun fs hr => X39.returnOut hx hret (hb hby d43_57) hr)
abbrev R42_91 : Room := { frames := 5, cells := 2, slots := 800, locals := 74 }
def Q42_91 (Z : State) (sx ca : Addr) (kca : ClassId) (cs : List Int32) (cn G1 : Int32) (h0 : Heap) (n0 : Nat) (v : Option Value) (h : Heap) (L : List Loc) : Prop := (∃ (eq0 : Addr), v = none ∧ Fr n0 L ∧ Keep h0 h [sx] ∧ h0.size ≤ eq0 ∧ own_st Z h sx eq0 cs cn)
abbrev C42_91 (cn : Int32) : Prop := (¬ (cn < (0 : Int32))) ∧ (¬ (cn = (0 : Int32))) ∧ (cn.toNatClampNeg ≤ 400) ∧ (cn < (1073741823 : Int32)) ∧ (¬ ((cn <<< ((1 : Int32) &&& 31)) < (0 : Int32))) ∧ ((cn <<< ((1 : Int32) &&& 31)).toNatClampNeg ≤ 400) ∧ (2 * ((0 : Int32).toNatClampNeg + cn.toNatClampNeg) ≤ (cn <<< ((1 : Int32) &&& 31)).toNatClampNeg) ∧ (cn.toNatClampNeg ≤ 199) ∧ ((cn <<< ((1 : Int32) &&& 31)).toNatClampNeg = 2 * cn.toNatClampNeg) ∧ (((((cn - cn).toUInt32 >>> ((31 : Int32) &&& 31).toUInt32).toInt32).toInt8.toInt32) = (0 : Int32)) ∧ (((((cn - (cn <<< ((1 : Int32) &&& 31))).toUInt32 >>> ((31 : Int32) &&& 31).toUInt32).toInt32).toInt8.toInt32) = (1 : Int32))
theorem rm42_91 l Z a0 (hw : HW Z a0) sx ca kca (cs : List Int32) (cn : Int32) (G1 : Int32) h0 n0 (OLD : Old Z n0 h0) (A' : Exa Z h0 sx cN1) (B' : Fld Z h0 sx cN1 "value" "[B" .null) (C' : Fld Z h0 sx cN1 "coder" "B" (.int 0)) (D' : Arv Z h0 ca kca .char cn (own_ci cs) (.int 0)) (hz : cs.length = cn.toNatClampNeg) (hz4 : cn.toNatClampNeg ≤ 400) (hch : ∀ c ∈ cs, ¬ c < 0 ∧ ¬ (65535 : Int32) < c) (O2 : Sta Z Z.heap cN1 "COMPACT_STRINGS" "Z" (.int G1)) (P5 : ¬ (G1 = (0 : Int32))) (Sas : Sta Z Z.heap cN2 "$assertionsDisabled" "Z" (.int 1)) (SHI : Sta Z Z.heap cN2 "HI_BYTE_SHIFT" "I" (.int 0)) (SLO : Sta Z Z.heap cN2 "LO_BYTE_SHIFT" "I" (.int 8)) (ge_sx : n0 ≤ sx) (hC : C42_91 cn) :
  own_CN l Z y60 jdk_42_method_3_code 2 none [] R42_91 #[.ref sx, .ref ca] h0 (Q42_91 Z sx ca kca cs cn G1 h0 n0) := by
 refine own_entryN (plainFor_of_name pn_2) fun p e s m below meth c s₁ hx hby hml hown hnm hret hlk hZ hh X0 e0 => ?_
 obtain ⟨hk6, hn14, hn15, hn16, hn17, hn18, hn19, hn20, hn21, hn22, hn23⟩ := hC
 have N0 := Fr.nil n0
 rw [ef_17_21 m sx ca]
 refine og s₁ (mkF m 4 #[vR sx, vR ca] [.ref ca, .int 0, .ref ca, .ref sx]) (fun _ k => qa X0 hx hby d42_0 rfl rfl rfl (qa X0 hx hby d42_1 rfl rfl rfl (qc X0 hx hby d42_2 rfl (qa X0 hx hby d42_3 rfl rfl rfl k)))) ?_
 obtain ⟨cl1, Ar1, -, Sr1, Nr1, -, -⟩ := id D'
 refine og s₁ (mkF m 5 #[vR sx, vR ca] [.int cn, .int 0, .ref ca, .ref sx]) (fun t k => X0.arraylength hx (by rw [e0]; exact Ar1.1) (State.isArrayOf_alike hZ.alike Ar1.2.1) (g := (mkF m 4 #[vR sx, vR ca] [.ref ca, .int 0, .ref ca, .ref sx])) rfl rfl (hb hby d42_4) t (by rw [len_of Sr1 Nr1]; exact k)) ?_
 refine og s₁ (mkF m 6 #[vR sx, vR ca] [.null, .int cn, .int 0, .ref ca, .ref sx]) (fun _ k => XS.aconstNull X0.here hx rfl (hb hby d42_5) k) ?_
 obtain ⟨_, T2, L2, X2, hQ2, st2⟩ := own_sc X0 hx hZ rfl hown (ow hw 279) (ow hw 280) (rm43_92 l Z a0 hw sx ca kca cs cn G1 h0 n0 OLD A' B' C' D' hz hz4 hch O2 P5 Sas SHI SLO ge_sx ⟨hk6, hn14, hn15, hn16, hn17, hn18, hn19, hn20, hn21, hn22, hn23⟩) (ow hw 281) (ow hw 5) e0 (g := (mkF m 6 #[vR sx, vR ca] [.null, .int cn, .int 0, .ref ca, .ref sx])) rfl (zs hml) (argsL := [.ref ca, .int 0, .int cn, .null]) (rest := []) (lenOf pd_43 rfl) rfl (hb hby d42_6) (W := 0) rfl
 obtain ⟨o3, kc4, rfl, Nq2, K2, f5, f6⟩ := hQ2
 have N2 := Fr.app N0 Nq2
 have g7 : n0 ≤ o3 := Nat.le_trans (own_osz OLD) f5
 have z8 : h0.size ≤ o3 := Nat.le_trans (Nat.le_refl _) f5
 refine ot T2 (mkF m 9 #[vR sx, vR ca] []) st2 ?_
 have KEEP := ((Keep.refl h0 [sx]).trans K2 (allS (Or.inl (List.mem_of_getElem? (i := 0) rfl)) all0))
 exact own_leaveN X2 hlk (v := none) (fun _ => rfl) (lb rfl) (lb rfl) (by exact ⟨o3, rfl, N2, KEEP, z8, f6⟩) (fun fs hr => X2.returnOut hx hret (hb hby d42_9) hr)
abbrev R47_98 : Room := { frames := 0, cells := 0, slots := 0, locals := 0 }
def Q47_98 (Z : State) (ra0 w1 : Addr) (h0 : Heap) (n0 : Nat) (v : Option Value) (h : Heap) (L : List Loc) : Prop := (v = some (.ref w1) ∧ Fr n0 L ∧ h = h0)
theorem rm47_98 l Z a0 (hw : HW Z a0) ra0 w1 h0 n0 (OLD : Old Z n0 h0) (A' : Fld Z h0 ra0 cN3 "detailMessage" "Ljava/lang/String;" (.ref w1)) :
  own_CN l Z y61 jdk_78_method_6_code 1 (some (.object cN1)) [] R47_98 #[.ref ra0] h0 (Q47_98 Z ra0 w1 h0 n0) := by
 refine own_entryN (plainFor_of_name pn_10) fun p e s m below meth c s₁ hx hby hml hown hnm hret hlk hZ hh X0 e0 => ?_
 have N0 := Fr.nil n0
 rw [ef_7_11 m ra0]
 refine og s₁ (mkF m 1 #[vR ra0] [.ref ra0]) (fun _ k => qa X0 hx hby d47_0 rfl rfl rfl k) ?_
 obtain ⟨T2, X2, e2, st2⟩ := qf X0 hx hZ hown (ow hw 267) e0 A' (g := (mkF m 1 #[vR ra0] [.ref ra0])) rfl rfl hby d47_1
 refine og T2 (mkF m 4 #[vR ra0] [.ref w1]) st2 ?_
 exact own_leaveN X2 hlk (v := some (.ref w1)) (own_nr hret) (lb rfl) (lb rfl) (by rw [e2]; exact ⟨rfl, N0, rfl⟩) (own_ra X2 hx hret rfl rfl rfl (hb hby d47_4))
abbrev R49_100 : Room := { frames := 0, cells := 0, slots := 0, locals := 0 }
def Q49_100 (Z : State) (ba : Addr) (ka : ClassId) (bb : Addr) (kb : ClassId) (cs : List Int32) (cn : Int32) (h0 : Heap) (n0 : Nat) (v : Option Value) (h : Heap) (L : List Loc) : Prop := (v = some (.int 1) ∧ Fr n0 L ∧ h = h0)
abbrev C49_100 (cn : Int32) : Prop := (¬ (cn < (0 : Int32)))
theorem rm49_100 l Z a0 (hw : HW Z a0) ba ka bb kb (cs : List Int32) (cn : Int32) h0 n0 (OLD : Old Z n0 h0) (A' : Arv Z h0 ba ka .byte cn (own_by cs) (.int 0)) (B' : Arv Z h0 bb kb .byte cn (own_by cs) (.int 0)) (hz : cs.length = cn.toNatClampNeg) (hz4 : cn.toNatClampNeg ≤ 400) (hC : C49_100 cn) :
  own_CN l Z y63 jdk_43_method_13_code 3 (some .boolean) [] R49_100 #[.ref ba, .ref bb] h0 (Q49_100 Z ba ka bb kb cs cn h0 n0) := by
 refine own_entryN (plainFor_of_name pn_1) fun p e s m below meth c s₁ hx hby hml hown hnm hret hlk hZ hh X0 e0 => ?_
 have hk4 := hC
 have N0 := Fr.nil n0
 rw [ef_12_16 m ba bb]
 refine og s₁ (mkF m 1 #[vR ba, vR bb, vU] [.ref ba]) (fun _ k => qa X0 hx hby d49_0 rfl rfl rfl k) ?_
 obtain ⟨cl1, Ar1, -, Sr1, Nr1, -, -⟩ := id A'
 refine og s₁ (mkF m 2 #[vR ba, vR bb, vU] [.int cn]) (fun t k => X0.arraylength hx (by rw [e0]; exact Ar1.1) (State.isArrayOf_alike hZ.alike Ar1.2.1) (g := (mkF m 1 #[vR ba, vR bb, vU] [.ref ba])) rfl rfl (hb hby d49_1) t (by rw [len_of Sr1 Nr1]; exact k)) ?_
 refine og s₁ (mkF m 3 #[vR ba, vR bb, vU] [.ref bb, .int cn]) (fun _ k => qa X0 hx hby d49_2 rfl rfl rfl k) ?_
 obtain ⟨cl2, Ar2, -, Sr2, Nr2, -, -⟩ := id B'
 refine og s₁ (mkF m 4 #[vR ba, vR bb, vU] [.int cn, .int cn]) (fun t k => X0.arraylength hx (by rw [e0]; exact Ar2.1) (State.isArrayOf_alike hZ.alike Ar2.2.1) (g := (mkF m 3 #[vR ba, vR bb, vU] [.ref bb, .int cn])) rfl rfl (hb hby d49_3) t (by rw [len_of Sr2 Nr2]; exact k)) ?_
 refine og s₁ (mkF m 9 #[vR ba, vR bb, vI 0] []) (fun _ k => qn X0 hx hby d49_4 rfl rfl (teq (rfl : cn = cn)).2 (qc X0 hx hby d49_7 rfl (XS.istoreN X0.here hx rfl (hb hby d49_8) rfl (l' := #[vR ba, vR bb, vI 0]) rfl k))) ?_
 have J3 : ∀ (q2 q1 : List Int32), cs = q1 ++ q2 → ∀ (ii : Int32), ii = Int32.ofNat q1.length → own_Fin p.tables e below (own_PN s (Q49_100 Z ba ka bb kb cs cn h0 n0) R49_100.cells R49_100.slots) s₁ (mkF m 9 #[vR ba, vR bb, vI ii] []) := by
  intro q2
  induction q2 with
  | nil =>
   intro q1 hq ii hii
   rw [List.append_nil] at hq
   subst hq
   refine og s₁ (mkF m 11 #[vR ba, vR bb, vI ii] [.ref ba, .int ii]) (fun _ k => qi X0 hx hby d49_9 rfl rfl (qa X0 hx hby d49_10 rfl rfl rfl k)) ?_
   obtain ⟨cl4, Ar4, -, Sr4, Nr4, -, -⟩ := id A'
   refine og s₁ (mkF m 12 #[vR ba, vR bb, vI ii] [.int cn, .int ii]) (fun t k => X0.arraylength hx (by rw [e0]; exact Ar4.1) (State.isArrayOf_alike hZ.alike Ar4.2.1) (g := (mkF m 11 #[vR ba, vR bb, vI ii] [.ref ba, .int ii])) rfl rfl (hb hby d49_11) t (by rw [len_of Sr4 Nr4]; exact k)) ?_
   refine og s₁ (mkF m 33 #[vR ba, vR bb, vI ii] [.int 1]) (fun _ k => XS.icmpYes X0.here hx rfl (pc0 := 12) (pc' := 32) rfl (hb hby d49_12) rfl (flt (own_ixE hz hz4 hk4 hii)).2.1 (by decide) (by decide) (qc X0 hx hby d49_32 rfl k)) ?_
   exact own_leaveN X0 hlk (v := some (.int (nar .boolean (1 : Int32)))) (own_nr hret) (lb rfl) (lb rfl) (by rw [e0]; exact ⟨rfl, N0, rfl⟩) (fun fs hr => retN X0 hx (t := .boolean) hret (by simp) (hb hby d49_33) hr)
  | cons cq q2 ih =>
   intro q1 hq ii hii
   refine og s₁ (mkF m 11 #[vR ba, vR bb, vI ii] [.ref ba, .int ii]) (fun _ k => qi X0 hx hby d49_9 rfl rfl (qa X0 hx hby d49_10 rfl rfl rfl k)) ?_
   obtain ⟨cl5, Ar5, -, Sr5, Nr5, -, -⟩ := id A'
   refine og s₁ (mkF m 12 #[vR ba, vR bb, vI ii] [.int cn, .int ii]) (fun t k => X0.arraylength hx (by rw [e0]; exact Ar5.1) (State.isArrayOf_alike hZ.alike Ar5.2.1) (g := (mkF m 11 #[vR ba, vR bb, vI ii] [.ref ba, .int ii])) rfl rfl (hb hby d49_11) t (by rw [len_of Sr5 Nr5]; exact k)) ?_
   refine og s₁ (mkF m 17 #[vR ba, vR bb, vI ii] [.int ii, .ref ba]) (fun _ k => qn X0 hx hby d49_12 rfl rfl (tlt (own_ix hz hz4 hq hii).1.2).2.1 (qa X0 hx hby d49_15 rfl rfl rfl (qi X0 hx hby d49_16 rfl rfl k))) ?_
   obtain ⟨cl6, Ar6, qr6, Sr6, Nr6, Hr6, Gr6⟩ := id A'
   have hi6 : ¬ (ii < 0 ∨ cl6.slots.size ≤ (ii).toNatClampNeg) := inb_of Sr6 (own_ix hz hz4 hq hii).1
   refine og s₁ (mkF m 18 #[vR ba, vR bb, vI ii] [(.int (cq.toInt8.toInt32))]) (fun t k => X0.baloadBytes hx (j := ii) (v := (.int (cq.toInt8.toInt32))) (by rw [e0]; exact Ar6.1) (State.isArrayOf_alike hZ.alike Ar6.2.1) Ar6.2.2 hi6 (Has.at Hr6 hi6 (own_bv hz hz4 hq hii)) (g := (mkF m 17 #[vR ba, vR bb, vI ii] [.int ii, .ref ba])) rfl rfl (hb hby d49_17) t k) ?_
   refine og s₁ (mkF m 20 #[vR ba, vR bb, vI ii] [.int ii, .ref bb, (.int (cq.toInt8.toInt32))]) (fun _ k => qa X0 hx hby d49_18 rfl rfl rfl (qi X0 hx hby d49_19 rfl rfl k)) ?_
   obtain ⟨cl7, Ar7, qr7, Sr7, Nr7, Hr7, Gr7⟩ := id B'
   have hi7 : ¬ (ii < 0 ∨ cl7.slots.size ≤ (ii).toNatClampNeg) := inb_of Sr7 (own_ix hz hz4 hq hii).1
   refine og s₁ (mkF m 21 #[vR ba, vR bb, vI ii] [(.int (cq.toInt8.toInt32)), (.int (cq.toInt8.toInt32))]) (fun t k => X0.baloadBytes hx (j := ii) (v := (.int (cq.toInt8.toInt32))) (by rw [e0]; exact Ar7.1) (State.isArrayOf_alike hZ.alike Ar7.2.1) Ar7.2.2 hi7 (Has.at Hr7 hi7 (own_bv hz hz4 hq hii)) (g := (mkF m 20 #[vR ba, vR bb, vI ii] [.int ii, .ref bb, (.int (cq.toInt8.toInt32))])) rfl rfl (hb hby d49_20) t k) ?_
   refine og s₁ (mkF m 9 #[vR ba, vR bb, vI (ii + (1 : Int32))] []) (fun _ k => XS.icmpYes X0.here hx rfl (pc0 := 21) (pc' := 26) rfl (hb hby d49_21) rfl (teq (rfl : (cq.toInt8.toInt32) = (cq.toInt8.toInt32))).1 (by decide) (by decide) (XS.iinc X0.here hx rfl (hb hby d49_26) rfl (l' := #[vR ba, vR bb, vI (ii + (1 : Int32))]) rfl (XS.goto X0.here hx rfl (pc0 := 29) (pc' := 9) rfl (hb hby d49_29) (by decide) (by decide) k))) ?_
   exact ih (q1 ++ [cq]) (by rw [hq, List.append_assoc]; rfl) _ (own_inc1 hii)
 exact J3 cs [] rfl _ rfl
abbrev R48_99 : Room := { frames := 1, cells := 0, slots := 0, locals := 14 }
def Q48_99 (Z : State) (sx bx : Addr) (sy bz : Addr) (cs : List Int32) (cm G1 : Int32) (h0 : Heap) (n0 : Nat) (v : Option Value) (h : Heap) (L : List Loc) : Prop := (v = some (.int 1) ∧ Fr n0 L ∧ h = h0)
abbrev C48_99 (cm : Int32) : Prop := (cm.toNatClampNeg ≤ 400) ∧ (¬ (cm < (0 : Int32))) ∧ ((2 * cm.toNatClampNeg) = (cm <<< ((1 : Int32) &&& 31)).toNatClampNeg) ∧ ((cm <<< ((1 : Int32) &&& 31)).toNatClampNeg ≤ 400) ∧ (¬ ((cm <<< ((1 : Int32) &&& 31)) < (0 : Int32)))
theorem rm48_99 l Z a0 (hw : HW Z a0) sx bx sy bz (cs : List Int32) (cm : Int32) (G1 : Int32) h0 n0 (OLD : Old Z n0 h0) (S_sx : own_st Z h0 sx bx cs cm) (S_sy : own_st Z h0 sy bz cs cm) (hxy : sx ≠ sy) (O2 : Sta Z Z.heap cN1 "COMPACT_STRINGS" "Z" (.int G1)) (P5 : ¬ (G1 = (0 : Int32))) (hC : C48_99 cm) :
  own_CN l Z y64 jdk_42_method_66_code 3 (some .boolean) [] R48_99 #[.ref sx, .ref sy] h0 (Q48_99 Z sx bx sy bz cs cm G1 h0 n0) := by
 refine own_entryN (plainFor_of_name pn_2) fun p e s m below meth c s₁ hx hby hml hown hnm hret hlk hZ hh X0 e0 => ?_
 obtain ⟨hn5, hn6, hn7, hn8, hn9⟩ := hC
 have N0 := Fr.nil n0
 rw [ef_12_16 m sx sy]
 obtain ⟨kc1, ⟨Fc1, Vc1, lc1⟩ | ⟨Fc1, Vc1, lc1⟩⟩ := S_sx.2.2.2
 ·
  obtain ⟨kc2, ⟨Fc2, Vc2, lc2⟩ | ⟨Fc2, Vc2, lc2⟩⟩ := S_sy.2.2.2
  ·
   refine og s₁ (mkF m 8 #[vR sx, vR sy, vU] [.ref sy]) (fun _ k => qa X0 hx hby d48_0 rfl rfl rfl (qa X0 hx hby d48_1 rfl rfl rfl (Jvm.RoadKit.acmp (g := (mkF m 2 #[vR sx, vR sy, vU] [.ref sy, .ref sx])) X0 hx rfl rfl rfl (pc0 := 2) (pc' := 7) (same := false) rfl (hb hby d48_2) rfl (decide_eq_false fun q => hxy (Value.ref.inj q)) (by decide) (by decide) (qa X0 hx hby d48_7 rfl rfl rfl k)))) ?_
   obtain ⟨T3, X3, e3, st3⟩ := instY X0 hx hZ hown (ow hw 12) e0 (Ins.self S_sy.1) (g := (mkF m 8 #[vR sx, vR sy, vU] [.ref sy])) rfl rfl (hb hby d48_8)
   refine og T3 (mkF m 15 #[vR sx, vR sy, vU] [.ref sy]) (fun _ k => st3 _ (XS.ifNo X3.here hx rfl (hb hby d48_11) rfl ((if0 _ _).trans (feq (by decide : ¬ ((1 : Int32) = (0 : Int32)))).1) (qa X3 hx hby d48_14 rfl rfl rfl k))) ?_
   obtain ⟨T4, X4, e4, st4⟩ := castY X3 hx hZ hown (ow hw 12) e3 (Ins.self S_sy.1) (g := (mkF m 15 #[vR sx, vR sy, vU] [.ref sy])) rfl rfl (hb hby d48_15)
   refine og T4 (mkF m 19 #[vR sx, vR sy, vR sy] []) (fun _ k => st4 _ (XS.astoreN X4.here hx rfl (hb hby d48_18) rfl rfl (l' := #[vR sx, vR sy, vR sy]) rfl k)) ?_
   obtain ⟨T5, X5, e5, st5⟩ := getS2 X4 hx hZ hown (host := "") (Or.inl (ow hw 7)) Via.refl e4 (O2.ext OLD.2) (g := (mkF m 19 #[vR sx, vR sy, vR sy] [])) rfl (hb hby d48_19)
   refine og T5 (mkF m 26 #[vR sx, vR sy, vR sy] [.ref sx]) (fun _ k => st5 _ (XS.ifNo X5.here hx rfl (hb hby d48_22) rfl ((if0 _ _).trans (feq P5).1) (qa X5 hx hby d48_25 rfl rfl rfl k))) ?_
   obtain ⟨T6, X6, e6, st6⟩ := qf X5 hx hZ hown (ow hw 27) e5 Fc1 (g := (mkF m 26 #[vR sx, vR sy, vR sy] [.ref sx])) rfl rfl hby d48_26
   refine og T6 (mkF m 30 #[vR sx, vR sy, vR sy] [.ref sy, .int 0]) (fun _ k => st6 _ (qa X6 hx hby d48_29 rfl rfl rfl k)) ?_
   obtain ⟨T7, X7, e7, st7⟩ := qf X6 hx hZ hown (ow hw 27) e6 Fc2 (g := (mkF m 30 #[vR sx, vR sy, vR sy] [.ref sy, .int 0])) rfl rfl hby d48_30
   refine og T7 (mkF m 37 #[vR sx, vR sy, vR sy] [.ref sx]) (fun _ k => st7 _ (qn X7 hx hby d48_33 rfl rfl (tq 0) (qa X7 hx hby d48_36 rfl rfl rfl k))) ?_
   obtain ⟨T8, X8, e8, st8⟩ := getF X7 hx hZ hown (host := "") (Or.inl (ow hw 25)) Via.refl e7 S_sx.2.1 (g := (mkF m 37 #[vR sx, vR sy, vR sy] [.ref sx])) rfl rfl (hb hby d48_37)
   refine og T8 (mkF m 41 #[vR sx, vR sy, vR sy] [.ref sy, .ref bx]) (fun _ k => st8 _ (qa X8 hx hby d48_40 rfl rfl rfl k)) ?_
   obtain ⟨T9, X9, e9, st9⟩ := getF X8 hx hZ hown (host := "") (Or.inl (ow hw 25)) Via.refl e8 S_sy.2.1 (g := (mkF m 41 #[vR sx, vR sy, vR sy] [.ref sy, .ref bx])) rfl rfl (hb hby d48_41)
   refine og T9 (mkF m 44 #[vR sx, vR sy, vR sy] [.ref bz, .ref bx]) st9 ?_
   obtain ⟨_, T10, L10, X10, hQ10, st10⟩ := own_tc X9 hx hZ hown (ow hw 303) (ow hw 304) (rm49_100 l Z a0 hw bx kc1 bz kc2 cs cm h0 n0 OLD Vc1 Vc2 (S_sy.2.2.1) hn5 hn6) (ow hw 305) (ow hw 10) e9 (g := (mkF m 44 #[vR sx, vR sy, vR sy] [.ref bz, .ref bx])) rfl (zs hml) (argsL := [.ref bx, .ref bz]) (rest := []) (lenOf pd_45 rfl) rfl (hb hby d48_44) (W := 0) rfl
   obtain ⟨rfl, Nq10, eq10⟩ := hQ10
   have N10 := Fr.app N0 Nq10
   refine og T10 (mkF m 55 #[vR sx, vR sy, vR sy] [.int 1]) (fun _ k => st10.trans (XS.ifNo X10.here hx rfl (hb hby d48_47) rfl ((if0 _ _).trans (feq (by decide : ¬ ((1 : Int32) = (0 : Int32)))).1) (qc X10 hx hby d48_50 rfl (XS.goto X10.here hx rfl (pc0 := 51) (pc' := 55) rfl (hb hby d48_51) (by decide) (by decide) k)))) ?_
   exact own_leaveN X10 hlk (v := some (.int (nar .boolean (1 : Int32)))) (own_nr hret) (lb rfl) (lb rfl) (by rw [eq10]; exact ⟨rfl, N10, rfl⟩) (fun fs hr => retN X10 hx (t := .boolean) hret (by simp) (hb hby d48_55) hr)
  ·
   exact (own_labs lc1 lc2).elim
 ·
  obtain ⟨kc11, ⟨Fc11, Vc11, lc11⟩ | ⟨Fc11, Vc11, lc11⟩⟩ := S_sy.2.2.2
  ·
   exact (own_labs lc11 lc1).elim
  ·
   refine og s₁ (mkF m 8 #[vR sx, vR sy, vU] [.ref sy]) (fun _ k => qa X0 hx hby d48_0 rfl rfl rfl (qa X0 hx hby d48_1 rfl rfl rfl (Jvm.RoadKit.acmp (g := (mkF m 2 #[vR sx, vR sy, vU] [.ref sy, .ref sx])) X0 hx rfl rfl rfl (pc0 := 2) (pc' := 7) (same := false) rfl (hb hby d48_2) rfl (decide_eq_false fun q => hxy (Value.ref.inj q)) (by decide) (by decide) (qa X0 hx hby d48_7 rfl rfl rfl k)))) ?_
   obtain ⟨T12, X12, e12, st12⟩ := instY X0 hx hZ hown (ow hw 12) e0 (Ins.self S_sy.1) (g := (mkF m 8 #[vR sx, vR sy, vU] [.ref sy])) rfl rfl (hb hby d48_8)
   refine og T12 (mkF m 15 #[vR sx, vR sy, vU] [.ref sy]) (fun _ k => st12 _ (XS.ifNo X12.here hx rfl (hb hby d48_11) rfl ((if0 _ _).trans (feq (by decide : ¬ ((1 : Int32) = (0 : Int32)))).1) (qa X12 hx hby d48_14 rfl rfl rfl k))) ?_
   obtain ⟨T13, X13, e13, st13⟩ := castY X12 hx hZ hown (ow hw 12) e12 (Ins.self S_sy.1) (g := (mkF m 15 #[vR sx, vR sy, vU] [.ref sy])) rfl rfl (hb hby d48_15)
   refine og T13 (mkF m 19 #[vR sx, vR sy, vR sy] []) (fun _ k => st13 _ (XS.astoreN X13.here hx rfl (hb hby d48_18) rfl rfl (l' := #[vR sx, vR sy, vR sy]) rfl k)) ?_
   obtain ⟨T14, X14, e14, st14⟩ := getS2 X13 hx hZ hown (host := "") (Or.inl (ow hw 7)) Via.refl e13 (O2.ext OLD.2) (g := (mkF m 19 #[vR sx, vR sy, vR sy] [])) rfl (hb hby d48_19)
   refine og T14 (mkF m 26 #[vR sx, vR sy, vR sy] [.ref sx]) (fun _ k => st14 _ (XS.ifNo X14.here hx rfl (hb hby d48_22) rfl ((if0 _ _).trans (feq P5).1) (qa X14 hx hby d48_25 rfl rfl rfl k))) ?_
   obtain ⟨T15, X15, e15, st15⟩ := qf X14 hx hZ hown (ow hw 27) e14 Fc1 (g := (mkF m 26 #[vR sx, vR sy, vR sy] [.ref sx])) rfl rfl hby d48_26
   refine og T15 (mkF m 30 #[vR sx, vR sy, vR sy] [.ref sy, .int 1]) (fun _ k => st15 _ (qa X15 hx hby d48_29 rfl rfl rfl k)) ?_
   obtain ⟨T16, X16, e16, st16⟩ := qf X15 hx hZ hown (ow hw 27) e15 Fc11 (g := (mkF m 30 #[vR sx, vR sy, vR sy] [.ref sy, .int 1])) rfl rfl hby d48_30
   refine og T16 (mkF m 37 #[vR sx, vR sy, vR sy] [.ref sx]) (fun _ k => st16 _ (qn X16 hx hby d48_33 rfl rfl (tq 1) (qa X16 hx hby d48_36 rfl rfl rfl k))) ?_
   obtain ⟨T17, X17, e17, st17⟩ := getF X16 hx hZ hown (host := "") (Or.inl (ow hw 25)) Via.refl e16 S_sx.2.1 (g := (mkF m 37 #[vR sx, vR sy, vR sy] [.ref sx])) rfl rfl (hb hby d48_37)
   refine og T17 (mkF m 41 #[vR sx, vR sy, vR sy] [.ref sy, .ref bx]) (fun _ k => st17 _ (qa X17 hx hby d48_40 rfl rfl rfl k)) ?_
   obtain ⟨T18, X18, e18, st18⟩ := getF X17 hx hZ hown (host := "") (Or.inl (ow hw 25)) Via.refl e17 S_sy.2.1 (g := (mkF m 41 #[vR sx, vR sy, vR sy] [.ref sy, .ref bx])) rfl rfl (hb hby d48_41)
   refine og T18 (mkF m 44 #[vR sx, vR sy, vR sy] [.ref bz, .ref bx]) st18 ?_
   obtain ⟨_, T19, L19, X19, hQ19, st19⟩ := own_tc X18 hx hZ hown (ow hw 303) (ow hw 304) (rm49_100 l Z a0 hw bx kc1 bz kc11 ((own_u cs)) ((cm <<< ((1 : Int32) &&& 31))) h0 n0 OLD Vc1 Vc11 (own_ulz (S_sy.2.2.1) hn7) hn8 hn9) (ow hw 305) (ow hw 10) e18 (g := (mkF m 44 #[vR sx, vR sy, vR sy] [.ref bz, .ref bx])) rfl (zs hml) (argsL := [.ref bx, .ref bz]) (rest := []) (lenOf pd_45 rfl) rfl (hb hby d48_44) (W := 0) rfl
   obtain ⟨rfl, Nq19, eq19⟩ := hQ19
   have N19 := Fr.app N0 Nq19
   refine og T19 (mkF m 55 #[vR sx, vR sy, vR sy] [.int 1]) (fun _ k => st19.trans (XS.ifNo X19.here hx rfl (hb hby d48_47) rfl ((if0 _ _).trans (feq (by decide : ¬ ((1 : Int32) = (0 : Int32)))).1) (qc X19 hx hby d48_50 rfl (XS.goto X19.here hx rfl (pc0 := 51) (pc' := 55) rfl (hb hby d48_51) (by decide) (by decide) k)))) ?_
   exact own_leaveN X19 hlk (v := some (.int (nar .boolean (1 : Int32)))) (own_nr hret) (lb rfl) (lb rfl) (by rw [eq19]; exact ⟨rfl, N19, rfl⟩) (fun fs hr => retN X19 hx (t := .boolean) hret (by simp) (hb hby d48_55) hr)
def Qlaw (Z : State) (pi0 pi1 : Int32) (pi2 pi3 : Int32) (pi4 G1 : Int32) (G3 us up : Value) (dg : Addr) (kdg : ClassId) (h0 : Heap) (n0 : Nat) (v : Option Value) (h : Heap) (L : List Loc) : Prop := (v = some (.int 1) ∧ Fr n0 L)
theorem rmlaw l Z a0 (hw : HW Z a0) (pi0 : Int32) (pi1 : Int32) (pi2 : Int32) (pi3 : Int32) (pi4 : Int32) (G1 : Int32) (G3 : Value) (us : Value) (up : Value) dg kdg h0 n0 (OLD : Old Z n0 h0) (O2 : Sta Z Z.heap cN1 "COMPACT_STRINGS" "Z" (.int G1)) (P5 : ¬ (G1 = (0 : Int32))) (Sas : Sta Z Z.heap cN2 "$assertionsDisabled" "Z" (.int 1)) (SHI : Sta Z Z.heap cN2 "HI_BYTE_SHIFT" "I" (.int 0)) (SLO : Sta Z Z.heap cN2 "LO_BYTE_SHIFT" "I" (.int 8)) (O4 : Sta Z Z.heap cN5 "SIOOBE_FORMATTER" "Ljava/util/function/BiFunction;" G3) (rG3 : G3.isRef = true) (Sus : Sta Z Z.heap cN3 "UNASSIGNED_STACK" "[Ljava/lang/StackTraceElement;" us) (rf_us : us.isRef = true) (Sup : Sta Z Z.heap cN3 "SUPPRESSED_SENTINEL" "Ljava/util/List;" up) (rf_up : up.isRef = true) (hl : l.stackTraces = true) (rus : us.isRef = true) (SG0 : Sta Z Z.heap "java/lang/Integer" "DigitOnes" "[B" (.ref dg)) (VG0 : Arv Z Z.heap dg kdg .byte (100 : Int32) own_dig (.int 0)) :
  own_CW l Z true x code maxLocals ret tables_1 room_1 #[.int pi0, .int pi1, .int pi2, .int pi3, .int pi4] h0 [] (Qlaw Z pi0 pi1 pi2 pi3 pi4 G1 G3 us up dg kdg h0 n0) := by
 refine own_entryW (plainFor_of_name pn_15) fun p e s m below meth c s₁ hx hby hml hown hnm hret hlk hZ hh hCH hSf hKn X0 e0 => ?_
 have N0 := Fr.nil n0
 have hS0 : s.Since s.vm h0.size := own_since s _
 have hk0 : h0.size ≤ h0.size := Nat.le_refl _
 have CH0 : CHr Z own_EL s.vm h0 s.vm h0 := CHr.refl hCH
 rw [ef_law m pi0 pi1 pi2 pi3 pi4]
 refine og s₁ (mkF m 2 #[vI pi0, vI pi1, vI pi2, vI pi3, vI pi4, vU, vU, vU, vU, vU, vU, vU, vU, vU] [.int 1, .int pi0]) (fun _ k => XS.iloadN X0.here hx rfl (hb hby at_0) rfl (XS.iconst X0.here hx rfl (hb hby at_1) k)) ?_
 have J1 : ∀ (ln : Int32), ¬ (9 : Int32) < ln → own_Fin p.tables e below (own_PW s Z own_EL (Qlaw Z pi0 pi1 pi2 pi3 pi4 G1 G3 us up dg kdg h0 n0) room_1.cells room_1.slots) s₁ (mkF m 17 #[vI pi0, vI pi1, vI pi2, vI pi3, vI pi4, vI ln, vU, vU, vU, vU, vU, vU, vU, vU] []) := by
  intro ln hl9
  refine og s₁ (mkF m 31 #[vI pi0, vI pi1, vI pi2, vI pi3, vI pi4, vI ln, vI (pi1.toUInt32.toUInt16.toUInt32.toInt32), vI (pi2.toUInt32.toUInt16.toUInt32.toInt32), vI (pi3.toUInt32.toUInt16.toUInt32.toInt32), vU, vU, vU, vU, vU] [.int pi4]) (fun _ k => XS.iloadN X0.here hx rfl (hb hby at_17) rfl (XS.i2c X0.here hx rfl (hb hby at_18) rfl (XS.istore X0.here hx rfl (hb hby at_19) rfl (l' := #[vI pi0, vI pi1, vI pi2, vI pi3, vI pi4, vI ln, vI (pi1.toUInt32.toUInt16.toUInt32.toInt32), vU, vU, vU, vU, vU, vU, vU]) rfl (XS.iloadN X0.here hx rfl (hb hby at_21) rfl (XS.i2c X0.here hx rfl (hb hby at_22) rfl (XS.istore X0.here hx rfl (hb hby at_23) rfl (l' := #[vI pi0, vI pi1, vI pi2, vI pi3, vI pi4, vI ln, vI (pi1.toUInt32.toUInt16.toUInt32.toInt32), vI (pi2.toUInt32.toUInt16.toUInt32.toInt32), vU, vU, vU, vU, vU, vU]) rfl (XS.iloadN X0.here hx rfl (hb hby at_25) rfl (XS.i2c X0.here hx rfl (hb hby at_26) rfl (XS.istore X0.here hx rfl (hb hby at_27) rfl (l' := #[vI pi0, vI pi1, vI pi2, vI pi3, vI pi4, vI ln, vI (pi1.toUInt32.toUInt16.toUInt32.toInt32), vI (pi2.toUInt32.toUInt16.toUInt32.toInt32), vI (pi3.toUInt32.toUInt16.toUInt32.toInt32), vU, vU, vU, vU, vU]) rfl (XS.iload X0.here hx rfl (hb hby at_29) rfl k)))))))))) ?_
  refine og s₁ (mkF m 34 #[vI pi0, vI pi1, vI pi2, vI pi3, vI pi4, vI ln, vI (pi1.toUInt32.toUInt16.toUInt32.toInt32), vI (pi2.toUInt32.toUInt16.toUInt32.toInt32), vI (pi3.toUInt32.toUInt16.toUInt32.toInt32), vI (pi4.toUInt32.toUInt16.toUInt32.toInt32), vU, vU, vU, vU] []) (fun _ k => XS.i2c X0.here hx rfl (hb hby at_31) rfl (XS.istore X0.here hx rfl (hb hby at_32) rfl (l' := #[vI pi0, vI pi1, vI pi2, vI pi3, vI pi4, vI ln, vI (pi1.toUInt32.toUInt16.toUInt32.toInt32), vI (pi2.toUInt32.toUInt16.toUInt32.toInt32), vI (pi3.toUInt32.toUInt16.toUInt32.toInt32), vI (pi4.toUInt32.toUInt16.toUInt32.toInt32), vU, vU, vU, vU]) rfl k)) ?_
  obtain ⟨c6, ec6⟩ : ∃ z, z = (pi1.toUInt32.toUInt16.toUInt32.toInt32) := ⟨_, rfl⟩
  rw [← ec6]
  have hcx6 : ¬ c6 < 0 ∧ ¬ (65535 : Int32) < c6 := by rw [ec6]; exact own_i2c _
  obtain ⟨c7, ec7⟩ : ∃ z, z = (pi2.toUInt32.toUInt16.toUInt32.toInt32) := ⟨_, rfl⟩
  rw [← ec7]
  have hcx7 : ¬ c7 < 0 ∧ ¬ (65535 : Int32) < c7 := by rw [ec7]; exact own_i2c _
  obtain ⟨c8, ec8⟩ : ∃ z, z = (pi3.toUInt32.toUInt16.toUInt32.toInt32) := ⟨_, rfl⟩
  rw [← ec8]
  have hcx8 : ¬ c8 < 0 ∧ ¬ (65535 : Int32) < c8 := by rw [ec8]; exact own_i2c _
  obtain ⟨c9, ec9⟩ : ∃ z, z = (pi4.toUInt32.toUInt16.toUInt32.toInt32) := ⟨_, rfl⟩
  rw [← ec9]
  have hcx9 : ¬ c9 < 0 ∧ ¬ (65535 : Int32) < c9 := by rw [ec9]; exact own_i2c _
  obtain ⟨T2, h2, X2, e2, E2, A2, D2, U2, st2⟩ := newO X0 hx hZ hown (ow hw 0) (ow hw 1) (ow hw 2) e0 (g := (mkF m 34 #[vI pi0, vI pi1, vI pi2, vI pi3, vI pi4, vI ln, vI c6, vI c7, vI c8, vI c9, vU, vU, vU, vU] [])) rfl (hb hby at_34) (lb rfl) (lb rfl)
  obtain ⟨b2, gb2⟩ : ∃ z, z = h0.size := ⟨_, rfl⟩
  rw [← gb2] at A2 D2 U2 st2
  have g3 : n0 ≤ b2 := Nat.le_trans (own_osz OLD) (Nat.le_of_eq gb2.symm)
  have z4 : h0.size ≤ b2 := Nat.le_trans (Nat.le_refl _) (Nat.le_of_eq gb2.symm)
  have ch5 := CHr.ext E2 CH0.1
  have CH6 := CHr.trans CH0 ch5
  refine og T2 (mkF m 40 #[vI pi0, vI pi1, vI pi2, vI pi3, vI pi4, vI ln, vI c6, vI c7, vI c8, vI c9, vU, vU, vU, vU] [.int c8, .ref b2, .ref b2]) (fun _ k => st2 _ (XS.dup X2.here hx rfl (hb hby at_37) rfl rfl (XS.iload X2.here hx rfl (hb hby at_38) rfl k))) ?_
  have F7 := (OLD.ext E2)
  obtain ⟨_, T8, L8, X8, hQ8, st8⟩ := own_tc X2 hx hZ hown (ow hw 3) (ow hw 4) (rm1_2 l Z a0 hw c8 G1 h2 n0 F7 hcx8 O2 P5 Sas SHI SLO) (ow hw 6) (ow hw 5) e2 (g := (mkF m 40 #[vI pi0, vI pi1, vI pi2, vI pi3, vI pi4, vI ln, vI c6, vI c7, vI c8, vI c9, vU, vU, vU, vU] [.int c8, .ref b2, .ref b2])) rfl (zs hml) (argsL := [.int c8]) (rest := [.ref b2, .ref b2]) (lenOf pd_4 rfl) rfl (hb hby at_40) (W := 2) rfl
  obtain ⟨o9, o10, kc11, rfl, Nq8, K8, f12, f13, f14⟩ := hQ8
  have N8 := Fr.app N0 Nq8
  have g15 : n0 ≤ o9 := Nat.le_trans (own_osz F7) f12
  have F17 := (Nat.le_trans (Nat.le_refl _) E2.1)
  have z16 : h0.size ≤ o9 := Nat.le_trans F17 f12
  have g18 : n0 ≤ o10 := Nat.le_trans (own_osz F7) f13
  have z19 : h0.size ≤ o10 := Nat.le_trans F17 f13
  have ch20 := CHr.keep K8 all0 CH6.1
  have CH21 := CHr.trans CH6 ch20
  have sf22 := Safe.keep K8 all0 CH6.1 (Safe.new f12)
  have sf23 := Safe.keep K8 all0 CH6.1 (Safe.new f13)
  refine og T8 (mkF m 44 #[vI pi0, vI pi1, vI pi2, vI pi3, vI pi4, vI ln, vI c6, vI c7, vI c8, vI c9, vU, vU, vU, vU] [.null, .ref o9, .ref b2, .ref b2]) (fun _ k => st8.trans (XS.aconstNull X8.here hx rfl (hb hby at_43) k)) ?_
  have F25 := (Nat.le_trans (Nat.le_trans hk0 E2.1) K8.1)
  have F26 := (Nat.le_trans F17 K8.1)
  obtain ⟨l24, T24, h24, k24, lb24, lk24, X24, e24, E24, hS24, hk24, hZ24, hown24, Ex24, Fc24, Fv24, Av24, la24, lz24, ch24, Lt24, sf24, st24⟩ := ldcCH X8 hx hZ hown (ow hw 29) (own_wS hw) rfl hS0 F25 (own_EW hw) (by decide) CH21.1 (vs := []) (z := (0 : Int32)) (by decide) (by decide) (by decide) (g := (mkF m 44 #[vI pi0, vI pi1, vI pi2, vI pi3, vI pi4, vI ln, vI c6, vI c7, vI c8, vI c9, vU, vU, vU, vU] [.null, .ref o9, .ref b2, .ref b2])) rfl (hb hby at_44) (n := 0) (by decide) (by decide) (lb rfl) (lb rfl)
  have CH27 := CHr.trans CH21 ch24
  have Ay24 : Arv Z h24 lb24 lk24 .byte (0 : Int32) (own_by ([] : List Int32)) (.int 0) := Av24
  refine og T24 (mkF m 49 #[vI pi0, vI pi1, vI pi2, vI pi3, vI pi4, vI ln, vI c6, vI c7, vI c8, vI c9, vU, vU, vU, vU] [.int c6, .null, .ref l24, .null, .ref o9, .ref b2, .ref b2]) (fun _ k => st24 _ (XS.aconstNull X24.here hx rfl (hb hby at_46) (XS.iload X24.here hx rfl (hb hby at_47) rfl k))) ?_
  have F28 := ((F7.keep K8 all0).ext E24)
  obtain ⟨_, T29, L29, X29, hQ29, st29⟩ := own_tc X24 hx hZ24 hown24 (ow hw 3) (ow hw 4) (rm1_2 l Z a0 hw c6 G1 h24 n0 F28 hcx6 O2 P5 Sas SHI SLO) (ow hw 6) (ow hw 5) e24 (g := (mkF m 49 #[vI pi0, vI pi1, vI pi2, vI pi3, vI pi4, vI ln, vI c6, vI c7, vI c8, vI c9, vU, vU, vU, vU] [.int c6, .null, .ref l24, .null, .ref o9, .ref b2, .ref b2])) rfl (zs hml) (argsL := [.int c6]) (rest := [.null, .ref l24, .null, .ref o9, .ref b2, .ref b2]) (lenOf pd_4 rfl) rfl (hb hby at_49) (W := 6) rfl
  obtain ⟨o30, o31, kc32, rfl, Nq29, K29, f33, f34, f35⟩ := hQ29
  have N29 := Fr.app N8 Nq29
  have g36 : n0 ≤ o30 := Nat.le_trans (own_osz F28) f33
  have F38 := (Nat.le_trans F26 E24.1)
  have z37 : h0.size ≤ o30 := Nat.le_trans F38 f33
  have g39 : n0 ≤ o31 := Nat.le_trans (own_osz F28) f34
  have z40 : h0.size ≤ o31 := Nat.le_trans F38 f34
  have ch41 := CHr.keep K29 all0 CH27.1
  have CH42 := CHr.trans CH27 ch41
  have sf43 := Safe.keep K29 all0 CH27.1 (Safe.new f33)
  have sf44 := Safe.keep K29 all0 CH27.1 (Safe.new f34)
  refine og T29 (mkF m 54 #[vI pi0, vI pi1, vI pi2, vI pi3, vI pi4, vI ln, vI c6, vI c7, vI c8, vI c9, vU, vU, vU, vU] [.int ln, .ref o30, .null, .ref l24, .null, .ref o9, .ref b2, .ref b2]) (fun _ k => st29.trans (XS.iload X29.here hx rfl (hb hby at_52) rfl k)) ?_
  have F45 := (((A2.keep K8).ext E24).keep K29)
  have F46 := ((((D2 (Or.inr (ow hw 44)) (ty := (.object "java/util/Map")) (by decide)).keep K8 nin0).ext E24).keep K29 nin0)
  have F47 := ((((D2 (Or.inr (ow hw 48)) (ty := (.object "java/util/List")) (by decide)).keep K8 nin0).ext E24).keep K29 nin0)
  have F48 := ((((D2 (Or.inr (ow hw 50)) (ty := (.object cN1)) (by decide)).keep K8 nin0).ext E24).keep K29 nin0)
  have F49 := ((((D2 (Or.inr (ow hw 52)) (ty := .int) (by decide)).keep K8 nin0).ext E24).keep K29 nin0)
  have F50 := ((((D2 (Or.inr (ow hw 42)) (ty := (.object cN1)) (by decide)).keep K8 nin0).ext E24).keep K29 nin0)
  have F51 := ((((D2 (Or.inr (ow hw 46)) (ty := (.object cN1)) (by decide)).keep K8 nin0).ext E24).keep K29 nin0)
  have F52 := (F28.keep K29 all0)
  obtain ⟨_, T53, L53, X53, hQ53, st53⟩ := own_sc X29 hx hZ24 rfl hown24 (ow hw 32) (ow hw 33) (rm6_10 l Z a0 hw b2 o9 l24 o30 ln T29.heap n0 F52 F45 F46 F47 F48 F49 F50 F51 g3) (ow hw 34) (ow hw 2) rfl (g := (mkF m 54 #[vI pi0, vI pi1, vI pi2, vI pi3, vI pi4, vI ln, vI c6, vI c7, vI c8, vI c9, vU, vU, vU, vU] [.int ln, .ref o30, .null, .ref l24, .null, .ref o9, .ref b2, .ref b2])) rfl (zs hml) (argsL := [.ref o9, .null, .ref l24, .null, .ref o30, .int ln]) (rest := [.ref b2]) (lenOf pd_6 rfl) rfl (hb hby at_54) (W := 1) rfl
  obtain ⟨rfl, Nq53, K53, f54, f55, f56, f57, f58, f59⟩ := hQ53
  have N53 := Fr.app N29 Nq53
  have ch60 := CHr.keep K53 (allS (Safe.exa hZ24.alike F45 (by decide) (by decide)) all0) CH42.1
  have CH61 := CHr.trans CH42 ch60
  refine og T53 (mkF m 63 #[vI pi0, vI pi1, vI pi2, vI pi3, vI pi4, vI ln, vI c6, vI c7, vI c8, vI c9, vR b2, vU, vU, vU] [.int c7, .ref b2]) (fun _ k => st53.trans (XS.astore X53.here hx rfl (hb hby at_57) rfl rfl (l' := #[vI pi0, vI pi1, vI pi2, vI pi3, vI pi4, vI ln, vI c6, vI c7, vI c8, vI c9, vR b2, vU, vU, vU]) rfl (XS.aload X53.here hx rfl (hb hby at_59) rfl rfl (XS.iload X53.here hx rfl (hb hby at_61) rfl k)))) ?_
  have F62 := (F52.keep K53 (allS g3 all0))
  obtain ⟨_, T63, L63, X63, hQ63, st63⟩ := own_tc X53 hx hZ24 hown24 (ow hw 3) (ow hw 4) (rm1_2 l Z a0 hw c7 G1 T53.heap n0 F62 hcx7 O2 P5 Sas SHI SLO) (ow hw 6) (ow hw 5) rfl (g := (mkF m 63 #[vI pi0, vI pi1, vI pi2, vI pi3, vI pi4, vI ln, vI c6, vI c7, vI c8, vI c9, vR b2, vU, vU, vU] [.int c7, .ref b2])) rfl (zs hml) (argsL := [.int c7]) (rest := [.ref b2]) (lenOf pd_4 rfl) rfl (hb hby at_63) (W := 1) rfl
  obtain ⟨o64, o65, kc66, rfl, Nq63, K63, f67, f68, f69⟩ := hQ63
  have N63 := Fr.app N53 Nq63
  have g70 : n0 ≤ o64 := Nat.le_trans (own_osz F62) f67
  have F72 := (Nat.le_trans (Nat.le_trans F38 K29.1) K53.1)
  have z71 : h0.size ≤ o64 := Nat.le_trans F72 f67
  have g73 : n0 ≤ o65 := Nat.le_trans (own_osz F62) f68
  have z74 : h0.size ≤ o65 := Nat.le_trans F72 f68
  have ch75 := CHr.keep K63 all0 CH61.1
  have CH76 := CHr.trans CH61 ch75
  have sf77 := Safe.keep K63 all0 CH61.1 (Safe.new f67)
  have sf78 := Safe.keep K63 all0 CH61.1 (Safe.new f68)
  refine og T63 (mkF m 68 #[vI pi0, vI pi1, vI pi2, vI pi3, vI pi4, vI ln, vI c6, vI c7, vI c8, vI c9, vR b2, vU, vU, vU] [.int c9, .ref o64, .ref b2]) (fun _ k => st63.trans (XS.iload X63.here hx rfl (hb hby at_66) rfl k)) ?_
  have F79 := (F62.keep K63 all0)
  obtain ⟨_, T80, L80, X80, hQ80, st80⟩ := own_tc X63 hx hZ24 hown24 (ow hw 3) (ow hw 4) (rm1_2 l Z a0 hw c9 G1 T63.heap n0 F79 hcx9 O2 P5 Sas SHI SLO) (ow hw 6) (ow hw 5) rfl (g := (mkF m 68 #[vI pi0, vI pi1, vI pi2, vI pi3, vI pi4, vI ln, vI c6, vI c7, vI c8, vI c9, vR b2, vU, vU, vU] [.int c9, .ref o64, .ref b2])) rfl (zs hml) (argsL := [.int c9]) (rest := [.ref o64, .ref b2]) (lenOf pd_4 rfl) rfl (hb hby at_68) (W := 2) rfl
  obtain ⟨o81, o82, kc83, rfl, Nq80, K80, f84, f85, f86⟩ := hQ80
  have N80 := Fr.app N63 Nq80
  have g87 : n0 ≤ o81 := Nat.le_trans (own_osz F79) f84
  have F89 := (Nat.le_trans F72 K63.1)
  have z88 : h0.size ≤ o81 := Nat.le_trans F89 f84
  have g90 : n0 ≤ o82 := Nat.le_trans (own_osz F79) f85
  have z91 : h0.size ≤ o82 := Nat.le_trans F89 f85
  have ch92 := CHr.keep K80 all0 CH76.1
  have CH93 := CHr.trans CH76 ch92
  have sf94 := Safe.keep K80 all0 CH76.1 (Safe.new f84)
  have sf95 := Safe.keep K80 all0 CH76.1 (Safe.new f85)
  refine ot T80 (mkF m 71 #[vI pi0, vI pi1, vI pi2, vI pi3, vI pi4, vI ln, vI c6, vI c7, vI c8, vI c9, vR b2, vU, vU, vU] [.ref o81, .ref o64, .ref b2]) st80 ?_
  have F96 := (((F45.keep K53).keep K63).keep K80)
  have F97 := ((((f14.ext E24).keep K29 nin0 nin0).keep K53 (ninS (Ne.symm (own_ne_lo A2.lt f12)) nin0) (ninS (Ne.symm (own_ne_lo A2.lt f13)) nin0)).keep K63 nin0 nin0)
  have F98 := (F97.keep K80 nin0 nin0)
  have ne99 : b2 ≠ o30 := (own_ne_lo (Nat.lt_of_lt_of_le (Nat.lt_of_lt_of_le A2.lt K8.1) E24.1) f33)
  have ne100 : b2 ≠ o31 := (own_ne_lo (Nat.lt_of_lt_of_le (Nat.lt_of_lt_of_le A2.lt K8.1) E24.1) f34)
  have F101 := (((f35.keep K53 (ninS (Ne.symm ne99) nin0) (ninS (Ne.symm ne100) nin0)).keep K63 nin0 nin0).keep K80 nin0 nin0)
  have F102 := (f69.keep K80 nin0 nin0)
  have F103 := ((f58.keep K63 nin0).keep K80 nin0)
  have F104 := ((f56.keep K63 nin0).keep K80 nin0)
  have F105 := ((f57.keep K63 nin0).keep K80 nin0)
  have F106 := (F79.keep K80 all0)
  obtain ⟨cq107, kq107, q107a, q107b, q107c⟩ := isOf hZ24 rfl F96
  obtain ⟨_, _, ⟨T107, L107, k107, n107⟩, -, X107, hs107, hg107, ⟨Lc107, hQ107, l107, y107, z107, ch107⟩, st107⟩ := X80.virtualBackS hx (y := y51) (z := y51) hown24 (mvT hZ24 (ow hw 53)) (mvT hZ24 (ow hw 54)) (notFace_of_selects (args := #[]) (mvT hZ24 (ow hw 56))) (mvT hZ24 (ow hw 56)) (mvT hZ24 (ow hw 55)) (by decide) (own_backSH (W := 0) (rm8_12 l Z a0 hw b2 ln o9 o10 (([c8] : List Int32)) o30 o31 (([c6] : List Int32)) o64 o65 (([c7] : List Int32)) o81 o82 (([c9] : List Int32)) G1 G3 us up dg kdg T80.heap n0 F106 F96 F98 F101 F102 f86 F103 F104 F105 O2 P5 O4 rG3 Sas SHI SLO Sus rf_us Sup rf_up hl rus SG0 VG0 hl9) hZ24 (ow hw 57) (ow hw 2) (lb rfl) (lb rfl) (own_EW hw) CH93.1 all0 (fun _ => ⟨Vm.MethodsKnown.alikeC hS24.1.alike (hKn rfl).1, Vm.FramesKnown.alikeC hS24.1.alike (hKn rfl).2⟩)) q107a q107c (g := (mkF m 71 #[vI pi0, vI pi1, vI pi2, vI pi3, vI pi4, vI ln, vI c6, vI c7, vI c8, vI c9, vR b2, vU, vU, vU] [.ref o81, .ref o64, .ref b2])) rfl (zs hml) (Steps.refl _) (argsL := [.ref o64, .ref o81]) (rest := []) (lenOf pd_37 rfl) rfl (lb rfl) (hb hby at_71) (fun _ _ => ⟨rfl, rfl, (lb rfl), (lb rfl)⟩)
  dsimp only [Pt.U, Pt.locs, Pt.cells, Pt.slots] at X107 l107 y107 z107 st107 hQ107 hs107 hg107 ch107
  subst l107 y107 z107
  replace X107 := own_reb X107
  have F108 := (Nat.le_trans (Nat.le_trans (Nat.le_trans (Nat.le_trans hk24 K29.1) K53.1) K63.1) K80.1)
  obtain ⟨hZ107, hS107, hown107⟩ := own_after hZ24 hS24 rfl F108 hs107 hg107 hown24
  obtain ⟨o109, o110, o111, rfl, Nq107, K107, f112, f113, f114, f115, f116, f117, f118, f119, f120⟩ := hQ107
  have N107 := Fr.app N80 Nq107
  have g121 : n0 ≤ o109 := Nat.le_trans (own_osz F106) f112
  have F123 := (Nat.le_trans F89 K80.1)
  have z122 : h0.size ≤ o109 := Nat.le_trans F123 f112
  have g124 : n0 ≤ o110 := Nat.le_trans (own_osz F106) f113
  have z125 : h0.size ≤ o110 := Nat.le_trans F123 f113
  have g126 : n0 ≤ o111 := Nat.le_trans (own_osz F106) f114
  have z127 : h0.size ≤ o111 := Nat.le_trans F123 f114
  have CH128 := CHr.trans CH93 ch107
  refine og T107 (mkF m 79 #[vI pi0, vI pi1, vI pi2, vI pi3, vI pi4, vI ln, vI c6, vI c7, vI c8, vI c9, vR b2, vR o109, vU, vU] [.int 1, .int ln]) (fun _ k => st107.trans (XS.astore X107.here hx rfl (hb hby at_74) rfl rfl (l' := #[vI pi0, vI pi1, vI pi2, vI pi3, vI pi4, vI ln, vI c6, vI c7, vI c8, vI c9, vR b2, vR o109, vU, vU]) rfl (XS.iload X107.here hx rfl (hb hby at_76) rfl (XS.iconst X107.here hx rfl (hb hby at_78) k)))) ?_
  by_cases hc129 : ln < (1 : Int32)
  ·
   refine og T107 (mkF m 84 #[vI pi0, vI pi1, vI pi2, vI pi3, vI pi4, vI ln, vI c6, vI c7, vI c8, vI c9, vR b2, vR o109, vU, vU] [.int 48]) (fun _ k => XS.icmpNo X107.here hx rfl (hb hby at_79) rfl (tlt hc129).2.1 (XS.bipush X107.here hx rfl (hb hby at_82) k)) ?_
   obtain ⟨T130, h130, k130, X130, e130, E130, A130, st130⟩ := newP X107 hx hZ107 (ow hw 268) rfl (g := (mkF m 84 #[vI pi0, vI pi1, vI pi2, vI pi3, vI pi4, vI ln, vI c6, vI c7, vI c8, vI c9, vR b2, vR o109, vU, vU] [.int 48])) rfl (hb hby at_84) rfl (by decide) (cap := 48) (by decide) (lb rfl) (lb rfl) (lb rfl)
   obtain ⟨b130, gb130⟩ : ∃ z, z = T107.heap.size := ⟨_, rfl⟩
   rw [← gb130] at A130 st130
   have F132 := (F106.keep K107 all0)
   have g131 : n0 ≤ b130 := Nat.le_trans (own_osz F132) (Nat.le_of_eq gb130.symm)
   have F134 := (Nat.le_trans F123 K107.1)
   have z133 : h0.size ≤ b130 := Nat.le_trans F134 (Nat.le_of_eq gb130.symm)
   have ch135 := CHr.ext E130 CH128.1
   have CH136 := CHr.trans CH128 ch135
   have V130 : Arv Z h130 b130 k130 .char (48 : Int32) (own_ci ([] : List Int32)) (.int 0) := Arv.new A130 (by decide)
   refine og T130 (mkF m 86 #[vI pi0, vI pi1, vI pi2, vI pi3, vI pi4, vI ln, vI c6, vI c7, vI c8, vI c9, vR b2, vR o109, vU, vU] [.ref b130]) st130 ?_
   have Pa137 : own_pa Z h130 b130 k130 (48 : Int32) ([] : List Int32) 0 := ⟨V130, rfl, fun _ q => nomatch q⟩
   have Ka137 := Keep.refl h130 [b130]
   refine own_qcb X130 hx hby hZ107 e130 Ka137 Pa137 N107 g131 at_86 at_87 at_88 at_90 0 99 1 91 ?_
   intro T138 h138 L138 X138 e138 K138 P138 N138
   refine own_qcb X138 hx hby hZ107 e138 K138 P138 N138 g131 at_91 at_92 at_93 at_95 1 97 2 96 ?_
   intro T139 h139 L139 X139 e139 K139 P139 N139
   refine own_qcb X139 hx hby hZ107 e139 K139 P139 N139 g131 at_96 at_97 at_98 at_100 2 110 3 101 ?_
   intro T140 h140 L140 X140 e140 K140 P140 N140
   refine own_qcb X140 hx hby hZ107 e140 K140 P140 N140 g131 at_101 at_102 at_103 at_105 3 110 4 106 ?_
   intro T141 h141 L141 X141 e141 K141 P141 N141
   refine own_qcb X141 hx hby hZ107 e141 K141 P141 N141 g131 at_106 at_107 at_108 at_110 4 111 5 111 ?_
   intro T142 h142 L142 X142 e142 K142 P142 N142
   refine own_qcb X142 hx hby hZ107 e142 K142 P142 N142 g131 at_111 at_112 at_113 at_115 5 116 6 116 ?_
   intro T143 h143 L143 X143 e143 K143 P143 N143
   refine own_qb X143 hx hby hZ107 e143 K143 P143 N143 g131 at_116 at_117 at_119 at_121 6 32 7 122 ?_
   intro T144 h144 L144 X144 e144 K144 P144 N144
   refine own_qb X144 hx hby hZ107 e144 K144 P144 N144 g131 at_122 at_123 at_125 at_127 7 114 8 128 ?_
   intro T145 h145 L145 X145 e145 K145 P145 N145
   refine own_qb X145 hx hby hZ107 e145 K145 P145 N145 g131 at_128 at_129 at_131 at_133 8 101 9 134 ?_
   intro T146 h146 L146 X146 e146 K146 P146 N146
   refine own_qb X146 hx hby hZ107 e146 K146 P146 N146 g131 at_134 at_135 at_137 at_139 9 97 10 140 ?_
   intro T147 h147 L147 X147 e147 K147 P147 N147
   refine own_qb X147 hx hby hZ107 e147 K147 P147 N147 g131 at_140 at_141 at_143 at_145 10 100 11 146 ?_
   intro T148 h148 L148 X148 e148 K148 P148 N148
   refine own_qb X148 hx hby hZ107 e148 K148 P148 N148 g131 at_146 at_147 at_149 at_151 11 32 12 152 ?_
   intro T149 h149 L149 X149 e149 K149 P149 N149
   refine own_ql X149 hx hby hZ107 e149 K149 P149 N149 g131 at_152 at_153 at_155 at_157 12 c6 13 158 hcx6 (by rfl) ?_
   intro T150 h150 L150 X150 e150 K150 P150 N150
   refine own_qb X150 hx hby hZ107 e150 K150 P150 N150 g131 at_158 at_159 at_161 at_163 13 58 14 164 ?_
   intro T151 h151 L151 X151 e151 K151 P151 N151
   refine own_qb X151 hx hby hZ107 e151 K151 P151 N151 g131 at_164 at_165 at_167 at_169 14 32 15 170 ?_
   intro T152 h152 L152 X152 e152 K152 P152 N152
   refine own_ql X152 hx hby hZ107 e152 K152 P152 N152 g131 at_170 at_171 at_173 at_175 15 c7 16 176 hcx7 (by rfl) ?_
   intro T153 h153 L153 X153 e153 K153 P153 N153
   refine own_qb X153 hx hby hZ107 e153 K153 P153 N153 g131 at_176 at_177 at_179 at_181 16 58 17 182 ?_
   intro T154 h154 L154 X154 e154 K154 P154 N154
   refine own_qb X154 hx hby hZ107 e154 K154 P154 N154 g131 at_182 at_183 at_185 at_187 17 32 18 188 ?_
   intro T155 h155 L155 X155 e155 K155 P155 N155
   refine own_qb X155 hx hby hZ107 e155 K155 P155 N155 g131 at_188 at_189 at_191 at_193 18 116 19 194 ?_
   intro T156 h156 L156 X156 e156 K156 P156 N156
   refine own_qb X156 hx hby hZ107 e156 K156 P156 N156 g131 at_194 at_195 at_197 at_199 19 104 20 200 ?_
   intro T157 h157 L157 X157 e157 K157 P157 N157
   refine own_qb X157 hx hby hZ107 e157 K157 P157 N157 g131 at_200 at_201 at_203 at_205 20 101 21 206 ?_
   intro T158 h158 L158 X158 e158 K158 P158 N158
   refine own_qb X158 hx hby hZ107 e158 K158 P158 N158 g131 at_206 at_207 at_209 at_211 21 32 22 212 ?_
   intro T159 h159 L159 X159 e159 K159 P159 N159
   refine own_qb X159 hx hby hZ107 e159 K159 P159 N159 g131 at_212 at_213 at_215 at_217 22 101 23 218 ?_
   intro T160 h160 L160 X160 e160 K160 P160 N160
   refine own_qb X160 hx hby hZ107 e160 K160 P160 N160 g131 at_218 at_219 at_221 at_223 23 108 24 224 ?_
   intro T161 h161 L161 X161 e161 K161 P161 N161
   refine own_qb X161 hx hby hZ107 e161 K161 P161 N161 g131 at_224 at_225 at_227 at_229 24 101 25 230 ?_
   intro T162 h162 L162 X162 e162 K162 P162 N162
   refine own_qb X162 hx hby hZ107 e162 K162 P162 N162 g131 at_230 at_231 at_233 at_235 25 109 26 236 ?_
   intro T163 h163 L163 X163 e163 K163 P163 N163
   refine own_qb X163 hx hby hZ107 e163 K163 P163 N163 g131 at_236 at_237 at_239 at_241 26 101 27 242 ?_
   intro T164 h164 L164 X164 e164 K164 P164 N164
   refine own_qb X164 hx hby hZ107 e164 K164 P164 N164 g131 at_242 at_243 at_245 at_247 27 110 28 248 ?_
   intro T165 h165 L165 X165 e165 K165 P165 N165
   refine own_qb X165 hx hby hZ107 e165 K165 P165 N165 g131 at_248 at_249 at_251 at_253 28 116 29 254 ?_
   intro T166 h166 L166 X166 e166 K166 P166 N166
   refine own_qb X166 hx hby hZ107 e166 K166 P166 N166 g131 at_254 at_255 at_257 at_259 29 32 30 260 ?_
   intro T167 h167 L167 X167 e167 K167 P167 N167
   refine own_qb X167 hx hby hZ107 e167 K167 P167 N167 g131 at_260 at_261 at_263 at_265 30 60 31 266 ?_
   intro T168 h168 L168 X168 e168 K168 P168 N168
   refine own_ql X168 hx hby hZ107 e168 K168 P168 N168 g131 at_266 at_267 at_269 at_271 31 c8 32 272 hcx8 (by rfl) ?_
   intro T169 h169 L169 X169 e169 K169 P169 N169
   refine own_qb X169 hx hby hZ107 e169 K169 P169 N169 g131 at_272 at_273 at_275 at_277 32 62 33 278 ?_
   intro T170 h170 L170 X170 e170 K170 P170 N170
   refine own_qb X170 hx hby hZ107 e170 K170 P170 N170 g131 at_278 at_279 at_281 at_283 33 32 34 284 ?_
   intro T171 h171 L171 X171 e171 K171 P171 N171
   refine own_qb X171 hx hby hZ107 e171 K171 P171 N171 g131 at_284 at_285 at_287 at_289 34 105 35 290 ?_
   intro T172 h172 L172 X172 e172 K172 P172 N172
   refine own_qb X172 hx hby hZ107 e172 K172 P172 N172 g131 at_290 at_291 at_293 at_295 35 115 36 296 ?_
   intro T173 h173 L173 X173 e173 K173 P173 N173
   refine own_qb X173 hx hby hZ107 e173 K173 P173 N173 g131 at_296 at_297 at_299 at_301 36 32 37 302 ?_
   intro T174 h174 L174 X174 e174 K174 P174 N174
   refine own_qb X174 hx hby hZ107 e174 K174 P174 N174 g131 at_302 at_303 at_305 at_307 37 110 38 308 ?_
   intro T175 h175 L175 X175 e175 K175 P175 N175
   refine own_qb X175 hx hby hZ107 e175 K175 P175 N175 g131 at_308 at_309 at_311 at_313 38 111 39 314 ?_
   intro T176 h176 L176 X176 e176 K176 P176 N176
   refine own_qb X176 hx hby hZ107 e176 K176 P176 N176 g131 at_314 at_315 at_317 at_319 39 116 40 320 ?_
   intro T177 h177 L177 X177 e177 K177 P177 N177
   refine own_qb X177 hx hby hZ107 e177 K177 P177 N177 g131 at_320 at_321 at_323 at_325 40 32 41 326 ?_
   intro T178 h178 L178 X178 e178 K178 P178 N178
   refine own_qb X178 hx hby hZ107 e178 K178 P178 N178 g131 at_326 at_327 at_329 at_331 41 114 42 332 ?_
   intro T179 h179 L179 X179 e179 K179 P179 N179
   refine own_qb X179 hx hby hZ107 e179 K179 P179 N179 g131 at_332 at_333 at_335 at_337 42 101 43 338 ?_
   intro T180 h180 L180 X180 e180 K180 P180 N180
   refine own_qb X180 hx hby hZ107 e180 K180 P180 N180 g131 at_338 at_339 at_341 at_343 43 97 44 344 ?_
   intro T181 h181 L181 X181 e181 K181 P181 N181
   refine own_qb X181 hx hby hZ107 e181 K181 P181 N181 g131 at_344 at_345 at_347 at_349 44 100 45 350 ?_
   intro T182 h182 L182 X182 e182 K182 P182 N182
   refine own_qb X182 hx hby hZ107 e182 K182 P182 N182 g131 at_350 at_351 at_353 at_355 45 58 46 356 ?_
   intro T183 h183 L183 X183 e183 K183 P183 N183
   refine own_qb X183 hx hby hZ107 e183 K183 P183 N183 g131 at_356 at_357 at_359 at_361 46 32 47 362 ?_
   intro T184 h184 L184 X184 e184 K184 P184 N184
   refine own_ql X184 hx hby hZ107 e184 K184 P184 N184 g131 at_362 at_363 at_365 at_367 47 c9 48 368 hcx9 (by rfl) ?_
   intro T185 h185 L185 X185 e185 K185 P185 N185
   obtain ⟨_, q187, -⟩ := id V130
   have ch186 := CHr.keep K185 (allS (Safe.arr hZ107.alike q187 nofun) all0) CH136.1
   have CH188 := CHr.trans CH136 ch186
   have Pm137 := P185.cast (ds := (((((([] : List Int32) ++ cL0) ++ ([c6] : List Int32)) ++ ([] : List Int32)) ++ ([58, 32] : List Int32)) ++ (((((([] : List Int32) ++ ([c7] : List Int32)) ++ cL1) ++ ([c8] : List Int32)) ++ cL2) ++ ([c9] : List Int32)))) (by simp only [List.append_assoc, List.nil_append, List.cons_append, List.append_nil])
   have F189 := ((f120.ext E130).keep K185 (ninS (own_ne_lo f120.lt (Nat.le_of_eq gb130.symm)) nin0) (ninS (own_ne_lo f120.ltb (Nat.le_of_eq gb130.symm)) nin0))
   have Sm137 : own_st Z h185 o110 o111 (((((([] : List Int32) ++ cL0) ++ ([c6] : List Int32)) ++ ([] : List Int32)) ++ ([58, 32] : List Int32)) ++ (((((([] : List Int32) ++ ([c7] : List Int32)) ++ cL1) ++ ([c8] : List Int32)) ++ cL2) ++ ([c9] : List Int32))) (48 : Int32) := by have q := F189; rw [own_lmT hc129, own_mlT hc129] at q; exact q
   refine og T185 (mkF m 724 #[vI pi0, vI pi1, vI pi2, vI pi3, vI pi4, vI ln, vI c6, vI c7, vI c8, vI c9, vR b2, vR o109, vR b130, vU] [.ref o109]) (fun _ k => XS.astore X185.here hx rfl (hb hby at_368) rfl rfl (l' := #[vI pi0, vI pi1, vI pi2, vI pi3, vI pi4, vI ln, vI c6, vI c7, vI c8, vI c9, vR b2, vR o109, vR b130, vU]) rfl (XS.goto X185.here hx rfl (pc0 := 370) (pc' := 717) rfl (hb hby at_370) (by decide) (by decide) (XS.aload X185.here hx rfl (hb hby at_717) rfl rfl (XS.ifnullNo X185.here hx rfl (hb hby at_719) rfl (XS.aload X185.here hx rfl (hb hby at_722) rfl rfl k))))) ?_
   have F190 := ((f116.ext E130).keep K185 (ninS (own_ne_lo f115.lt (Nat.le_of_eq gb130.symm)) nin0))
   have F191 := ((f117.ext E130).keep K185 (ninS (own_ne_lo f115.lt (Nat.le_of_eq gb130.symm)) nin0))
   have F193 := ((f115.ext E130).keep K185)
   obtain ⟨cq192, kq192, q192a, q192b, q192c⟩ := isOf hZ107 e185 F193
   obtain ⟨_, _, ⟨T192, L192, k192, n192⟩, -, X192, ⟨hv192, eq192, l192, y192, z192⟩, st192⟩ := X185.virtualBackUp hx (x := y52) (y := y53) hown107 (mvT hZ107 (ow hw 269)) (mvT hZ107 (ow hw 270)) (mvT hZ107 (ow hw 271)) (by decide) (mvT hZ107 (ow hw 273)) (mvT hZ107 (ow hw 272)) (gcBackPure (rm := { frames := 0, cells := 0, slots := 0, locals := 0 }) (W := 0) hZ107 (ow hw 274) (ow hw 272) (ow hw 229) (ow hw 232) F190 F191 rfl (lb rfl) (lb rfl)) q192a q192c (g := (mkF m 724 #[vI pi0, vI pi1, vI pi2, vI pi3, vI pi4, vI ln, vI c6, vI c7, vI c8, vI c9, vR b2, vR o109, vR b130, vU] [.ref o109])) rfl (zs hml) (Steps.refl _) (argsL := []) (rest := []) (lenOf pd_38 rfl) rfl (lb rfl) (hb hby at_724) (fun _ _ => ⟨rfl, e185, (lb rfl), (lb rfl)⟩)
   dsimp only [Pt.U, Pt.locs, Pt.cells, Pt.slots] at X192 l192 y192 z192 st192 hv192 eq192
   subst l192 y192 z192
   rw [gcv_null] at hv192
   subst hv192
   refine og T192 (mkF m 730 #[vI pi0, vI pi1, vI pi2, vI pi3, vI pi4, vI ln, vI c6, vI c7, vI c8, vI c9, vR b2, vR o109, vR b130, vU] []) (fun _ k => st192.trans (XS.ifnonnullNo X192.here hx rfl (hb hby at_727) rfl k)) ?_
   obtain ⟨T194, h194, X194, e194, E194, A194, D194, U194, st194⟩ := newO X192 hx hZ107 hown107 (ow hw 275) (ow hw 13) (ow hw 5) eq192 (g := (mkF m 730 #[vI pi0, vI pi1, vI pi2, vI pi3, vI pi4, vI ln, vI c6, vI c7, vI c8, vI c9, vR b2, vR o109, vR b130, vU] [])) rfl (hb hby at_730) (lb rfl) (lb rfl)
   obtain ⟨b194, gb194⟩ : ∃ z, z = h185.size := ⟨_, rfl⟩
   rw [← gb194] at A194 D194 U194 st194
   have F196 := ((F132.ext E130).keep K185 (allS g131 all0))
   have g195 : n0 ≤ b194 := Nat.le_trans (own_osz F196) (Nat.le_of_eq gb194.symm)
   have F198 := (Nat.le_trans (Nat.le_trans F134 E130.1) K185.1)
   have z197 : h0.size ≤ b194 := Nat.le_trans F198 (Nat.le_of_eq gb194.symm)
   have ch199 := CHr.ext E194 CH188.1
   have CH200 := CHr.trans CH188 ch199
   have sf201 := own_safe_new CH188.1 E194 (Nat.le_of_eq gb194.symm)
   refine og T194 (mkF m 736 #[vI pi0, vI pi1, vI pi2, vI pi3, vI pi4, vI ln, vI c6, vI c7, vI c8, vI c9, vR b2, vR o109, vR b130, vU] [.ref b130, .ref b194, .ref b194]) (fun _ k => st194 _ (XS.dup X194.here hx rfl (hb hby at_733) rfl rfl (XS.aload X194.here hx rfl (hb hby at_734) rfl rfl k))) ?_
   have F202 := (Pm137.1.ext E194)
   have F203 := (F196.ext E194)
   obtain ⟨_, T204, L204, X204, hQ204, st204⟩ := own_sc X194 hx hZ107 rfl hown107 (ow hw 276) (ow hw 277) (rm42_91 l Z a0 hw b194 b130 k130 ((((((([] : List Int32) ++ cL0) ++ ([c6] : List Int32)) ++ ([] : List Int32)) ++ ([58, 32] : List Int32)) ++ (((((([] : List Int32) ++ ([c7] : List Int32)) ++ cL1) ++ ([c8] : List Int32)) ++ cL2) ++ ([c9] : List Int32)))) ((48 : Int32)) G1 h194 n0 F203 A194 (D194 (Or.inr (ow hw 26)) (ty := (.array .byte)) (by decide)) (D194 (Or.inr (ow hw 28)) (ty := .byte) (by decide)) F202 (Pm137.2.1.trans (by decide)) (by decide) Pm137.2.2 O2 P5 Sas SHI SLO g195 (by decide)) (ow hw 278) (ow hw 5) e194 (g := (mkF m 736 #[vI pi0, vI pi1, vI pi2, vI pi3, vI pi4, vI ln, vI c6, vI c7, vI c8, vI c9, vR b2, vR o109, vR b130, vU] [.ref b130, .ref b194, .ref b194])) rfl (zs hml) (argsL := [.ref b130]) (rest := [.ref b194]) (lenOf pd_44 rfl) rfl (hb hby at_736) (W := 1) rfl
   obtain ⟨o205, rfl, Nq204, K204, f206, f207⟩ := hQ204
   have N204 := Fr.app N185 Nq204
   have g208 : n0 ≤ o205 := Nat.le_trans (own_osz F203) f206
   have F210 := (Nat.le_trans F198 E194.1)
   have z209 : h0.size ≤ o205 := Nat.le_trans F210 f206
   have ch211 := CHr.keep K204 (allS sf201 all0) CH200.1
   have CH212 := CHr.trans CH200 ch211
   have sf213 := Safe.keep K204 (allS sf201 all0) CH200.1 (Safe.new f206)
   refine og T204 (mkF m 741 #[vI pi0, vI pi1, vI pi2, vI pi3, vI pi4, vI ln, vI c6, vI c7, vI c8, vI c9, vR b2, vR o109, vR b130, vU] [.ref o109, .ref b194]) (fun _ k => st204.trans (XS.aload X204.here hx rfl (hb hby at_739) rfl rfl k)) ?_
   have ne214 : o109 ≠ b194 := (own_ne_lo (Nat.lt_of_lt_of_le (Nat.lt_of_lt_of_le f115.lt E130.1) K185.1) (Nat.le_of_eq gb194.symm))
   have F215 := ((((f118.ext E130).keep K185 (ninS (own_ne_lo f115.lt (Nat.le_of_eq gb130.symm)) nin0)).ext E194).keep K204 (ninS ne214 nin0))
   have F216 := (F203.keep K204 (allS g195 all0))
   have F219 := ((F193.ext E194).keep K204)
   obtain ⟨cq218, kq218, q218a, q218b, q218c⟩ := isOf hZ107 rfl F219
   obtain ⟨_, _, ⟨T218, L218, k218, n218⟩, -, X218, ⟨Lc218, hQ218, l218, y218, z218⟩, st218⟩ := X204.virtualBackUp hx (x := y62) (y := y61) hown107 (mvT hZ107 (ow hw 292)) (mvT hZ107 (ow hw 293)) (mvT hZ107 (ow hw 294)) (by decide) (mvT hZ107 (ow hw 296)) (mvT hZ107 (ow hw 295)) (backOf (W := 1) (rm47_98 l Z a0 hw o109 o110 T204.heap n0 F216 F215) hZ107 (ow hw 297) (ow hw 229) (lb rfl) (lb rfl)) q218a q218c (g := (mkF m 741 #[vI pi0, vI pi1, vI pi2, vI pi3, vI pi4, vI ln, vI c6, vI c7, vI c8, vI c9, vR b2, vR o109, vR b130, vU] [.ref o109, .ref b194])) rfl (zs hml) (Steps.refl _) (argsL := []) (rest := [.ref b194]) (lenOf pd_30 rfl) rfl (lb rfl) (hb hby at_741) (fun _ _ => ⟨rfl, rfl, (lb rfl), (lb rfl)⟩)
   dsimp only [Pt.U, Pt.locs, Pt.cells, Pt.slots] at X218 l218 y218 z218 st218 hQ218
   subst l218 y218 z218
   obtain ⟨rfl, Nq218, eq218⟩ := hQ218
   have N218 := Fr.app N204 Nq218
   refine ot T218 (mkF m 744 #[vI pi0, vI pi1, vI pi2, vI pi3, vI pi4, vI ln, vI c6, vI c7, vI c8, vI c9, vR b2, vR o109, vR b130, vU] [.ref o110, .ref b194]) st218 ?_
   have ne220 : o110 ≠ b194 := (own_ne_lo (Nat.lt_of_lt_of_le (Nat.lt_of_lt_of_le f120.lt E130.1) K185.1) (Nat.le_of_eq gb194.symm))
   have ne221 : o111 ≠ b194 := (own_ne_lo (Nat.lt_of_lt_of_le (Nat.lt_of_lt_of_le f120.ltb E130.1) K185.1) (Nat.le_of_eq gb194.symm))
   have F222 := ((Sm137.ext E194).keep K204 (ninS ne220 nin0) (ninS ne221 nin0))
   have F224 := (A194.keep K204)
   obtain ⟨_, T223, L223, X223, hQ223, st223⟩ := own_vc X218 hx hZ107 hown107 (ow hw 298) (ow hw 299) (ow hw 301) (ow hw 300) F224 (rm48_99 l Z a0 hw b194 o205 o110 o111 ((((((([] : List Int32) ++ cL0) ++ ([c6] : List Int32)) ++ ([] : List Int32)) ++ ([58, 32] : List Int32)) ++ (((((([] : List Int32) ++ ([c7] : List Int32)) ++ cL1) ++ ([c8] : List Int32)) ++ cL2) ++ ([c9] : List Int32)))) ((48 : Int32)) G1 T204.heap n0 F216 f207 F222 (Ne.symm ne220) O2 P5 (by decide)) (ow hw 302) (ow hw 5) eq218 (g := (mkF m 744 #[vI pi0, vI pi1, vI pi2, vI pi3, vI pi4, vI ln, vI c6, vI c7, vI c8, vI c9, vR b2, vR o109, vR b130, vU] [.ref o110, .ref b194])) rfl (zs hml) (argsL := [.ref o110]) (rest := []) (lenOf pd_46 rfl) rfl (hb hby at_744) (W := 0) rfl
   obtain ⟨rfl, Nq223, eq223⟩ := hQ223
   have N223 := Fr.app N218 Nq223
   refine og T223 (mkF m 755 #[vI pi0, vI pi1, vI pi2, vI pi3, vI pi4, vI ln, vI c6, vI c7, vI c8, vI c9, vR b2, vR o109, vR b130, vU] [.int 1]) (fun _ k => st223.trans (XS.ifNo X223.here hx rfl (hb hby at_747) rfl ((if0 _ _).trans (feq (by decide : ¬ ((1 : Int32) = (0 : Int32)))).1) (XS.iconst X223.here hx rfl (hb hby at_750) (XS.goto X223.here hx rfl (pc0 := 751) (pc' := 755) rfl (hb hby at_751) (by decide) (by decide) k)))) ?_
   have F225 := (Nat.le_trans (Nat.le_trans (Nat.le_trans (Nat.le_trans (Nat.le_refl _) E130.1) K185.1) E194.1) K204.1)
   exact own_leaveW (s := s) (vm0 := T107.vm) X223 hS107 F225 hZ107 (own_EW hw) eq223 CH212 hh hlk (v := some (.int (nar .boolean (1 : Int32)))) (own_nr hret) (lb rfl) (lb rfl) (by rw [eq223]; exact ⟨rfl, N223⟩) (fun fs hr => retN X223 hx (t := .boolean) hret (by simp) (hb hby at_755) hr)
  ·
   refine og T107 (mkF m 373 #[vI pi0, vI pi1, vI pi2, vI pi3, vI pi4, vI ln, vI c6, vI c7, vI c8, vI c9, vR b2, vR o109, vU, vU] []) (fun _ k => XS.icmpYes X107.here hx rfl (pc0 := 79) (pc' := 373) rfl (hb hby at_79) rfl (flt hc129).2.1 (by decide) (by decide) k) ?_
   obtain ⟨hd226a, hd226b, hd226c, hd226d⟩ := own_dn19 hc129 hl9
   refine og T107 (mkF m 378 #[vI pi0, vI pi1, vI pi2, vI pi3, vI pi4, vI ln, vI c6, vI c7, vI c8, vI c9, vR b2, vR o109, vU, vU] [(.int ((48 : Int32) + ln))]) (fun _ k => XS.bipush X107.here hx rfl (hb hby at_373) (XS.iload X107.here hx rfl (hb hby at_375) rfl (XS.iadd X107.here hx rfl (hb hby at_377) rfl k))) ?_
   refine og T107 (mkF m 379 #[vI pi0, vI pi1, vI pi2, vI pi3, vI pi4, vI ln, vI c6, vI c7, vI c8, vI c9, vR b2, vR o109, vU, vU] [(.int ((48 : Int32) + ln))]) (fun _ k => XS.i2c X107.here hx rfl (hb hby at_378) rfl (by rw [show ((48 : Int32) + ln).toUInt32.toUInt16.toUInt32.toInt32 = ((48 : Int32) + ln) from (own_ncl (own_48 hd226a hd226d))]; exact k)) ?_
   refine og T107 (mkF m 383 #[vI pi0, vI pi1, vI pi2, vI pi3, vI pi4, vI ln, vI c6, vI c7, vI c8, vI c9, vR b2, vR o109, vU, vI ((48 : Int32) + ln)] [.int 56]) (fun _ k => XS.istore X107.here hx rfl (hb hby at_379) rfl (l' := #[vI pi0, vI pi1, vI pi2, vI pi3, vI pi4, vI ln, vI c6, vI c7, vI c8, vI c9, vR b2, vR o109, vU, vI ((48 : Int32) + ln)]) rfl (XS.bipush X107.here hx rfl (hb hby at_381) k)) ?_
   obtain ⟨T227, h227, k227, X227, e227, E227, A227, st227⟩ := newP X107 hx hZ107 (ow hw 268) rfl (g := (mkF m 383 #[vI pi0, vI pi1, vI pi2, vI pi3, vI pi4, vI ln, vI c6, vI c7, vI c8, vI c9, vR b2, vR o109, vU, vI ((48 : Int32) + ln)] [.int 56])) rfl (hb hby at_383) rfl (by decide) (cap := 56) (by decide) (lb rfl) (lb rfl) (lb rfl)
   obtain ⟨b227, gb227⟩ : ∃ z, z = T107.heap.size := ⟨_, rfl⟩
   rw [← gb227] at A227 st227
   have F229 := (F106.keep K107 all0)
   have g228 : n0 ≤ b227 := Nat.le_trans (own_osz F229) (Nat.le_of_eq gb227.symm)
   have F231 := (Nat.le_trans F123 K107.1)
   have z230 : h0.size ≤ b227 := Nat.le_trans F231 (Nat.le_of_eq gb227.symm)
   have ch232 := CHr.ext E227 CH128.1
   have CH233 := CHr.trans CH128 ch232
   have V227 : Arv Z h227 b227 k227 .char (56 : Int32) (own_ci ([] : List Int32)) (.int 0) := Arv.new A227 (by decide)
   refine og T227 (mkF m 385 #[vI pi0, vI pi1, vI pi2, vI pi3, vI pi4, vI ln, vI c6, vI c7, vI c8, vI c9, vR b2, vR o109, vU, vI ((48 : Int32) + ln)] [.ref b227]) st227 ?_
   have Pa234 : own_pa Z h227 b227 k227 (56 : Int32) ([] : List Int32) 0 := ⟨V227, rfl, fun _ q => nomatch q⟩
   have Ka234 := Keep.refl h227 [b227]
   refine own_qcb X227 hx hby hZ107 e227 Ka234 Pa234 N107 g228 at_385 at_386 at_387 at_389 0 99 1 390 ?_
   intro T235 h235 L235 X235 e235 K235 P235 N235
   refine own_qcb X235 hx hby hZ107 e235 K235 P235 N235 g228 at_390 at_391 at_392 at_394 1 97 2 395 ?_
   intro T236 h236 L236 X236 e236 K236 P236 N236
   refine own_qcb X236 hx hby hZ107 e236 K236 P236 N236 g228 at_395 at_396 at_397 at_399 2 110 3 400 ?_
   intro T237 h237 L237 X237 e237 K237 P237 N237
   refine own_qcb X237 hx hby hZ107 e237 K237 P237 N237 g228 at_400 at_401 at_402 at_404 3 110 4 405 ?_
   intro T238 h238 L238 X238 e238 K238 P238 N238
   refine own_qcb X238 hx hby hZ107 e238 K238 P238 N238 g228 at_405 at_406 at_407 at_409 4 111 5 410 ?_
   intro T239 h239 L239 X239 e239 K239 P239 N239
   refine own_qcb X239 hx hby hZ107 e239 K239 P239 N239 g228 at_410 at_411 at_412 at_414 5 116 6 415 ?_
   intro T240 h240 L240 X240 e240 K240 P240 N240
   refine own_qb X240 hx hby hZ107 e240 K240 P240 N240 g228 at_415 at_416 at_418 at_420 6 32 7 421 ?_
   intro T241 h241 L241 X241 e241 K241 P241 N241
   refine own_qb X241 hx hby hZ107 e241 K241 P241 N241 g228 at_421 at_422 at_424 at_426 7 114 8 427 ?_
   intro T242 h242 L242 X242 e242 K242 P242 N242
   refine own_qb X242 hx hby hZ107 e242 K242 P242 N242 g228 at_427 at_428 at_430 at_432 8 101 9 433 ?_
   intro T243 h243 L243 X243 e243 K243 P243 N243
   refine own_qb X243 hx hby hZ107 e243 K243 P243 N243 g228 at_433 at_434 at_436 at_438 9 97 10 439 ?_
   intro T244 h244 L244 X244 e244 K244 P244 N244
   refine own_qb X244 hx hby hZ107 e244 K244 P244 N244 g228 at_439 at_440 at_442 at_444 10 100 11 445 ?_
   intro T245 h245 L245 X245 e245 K245 P245 N245
   refine own_qb X245 hx hby hZ107 e245 K245 P245 N245 g228 at_445 at_446 at_448 at_450 11 32 12 451 ?_
   intro T246 h246 L246 X246 e246 K246 P246 N246
   refine own_ql X246 hx hby hZ107 e246 K246 P246 N246 g228 at_451 at_452 at_454 at_456 12 c6 13 457 hcx6 (by rfl) ?_
   intro T247 h247 L247 X247 e247 K247 P247 N247
   refine own_qb X247 hx hby hZ107 e247 K247 P247 N247 g228 at_457 at_458 at_460 at_462 13 44 14 463 ?_
   intro T248 h248 L248 X248 e248 K248 P248 N248
   refine own_qb X248 hx hby hZ107 e248 K248 P248 N248 g228 at_463 at_464 at_466 at_468 14 32 15 469 ?_
   intro T249 h249 L249 X249 e249 K249 P249 N249
   refine own_qb X249 hx hby hZ107 e249 K249 P249 N249 g228 at_469 at_470 at_472 at_474 15 108 16 475 ?_
   intro T250 h250 L250 X250 e250 K250 P250 N250
   refine own_qb X250 hx hby hZ107 e250 K250 P250 N250 g228 at_475 at_476 at_478 at_480 16 105 17 481 ?_
   intro T251 h251 L251 X251 e251 K251 P251 N251
   refine own_qb X251 hx hby hZ107 e251 K251 P251 N251 g228 at_481 at_482 at_484 at_486 17 110 18 487 ?_
   intro T252 h252 L252 X252 e252 K252 P252 N252
   refine own_qb X252 hx hby hZ107 e252 K252 P252 N252 g228 at_487 at_488 at_490 at_492 18 101 19 493 ?_
   intro T253 h253 L253 X253 e253 K253 P253 N253
   refine own_qb X253 hx hby hZ107 e253 K253 P253 N253 g228 at_493 at_494 at_496 at_498 19 32 20 499 ?_
   intro T254 h254 L254 X254 e254 K254 P254 N254
   refine own_ql X254 hx hby hZ107 e254 K254 P254 N254 g228 at_499 at_500 at_502 at_504 20 ((48 : Int32) + ln) 21 505 (own_l16 (own_48 hd226a hd226d)) (by rfl) ?_
   intro T255 h255 L255 X255 e255 K255 P255 N255
   refine own_qb X255 hx hby hZ107 e255 K255 P255 N255 g228 at_505 at_506 at_508 at_510 21 58 22 511 ?_
   intro T256 h256 L256 X256 e256 K256 P256 N256
   refine own_qb X256 hx hby hZ107 e256 K256 P256 N256 g228 at_511 at_512 at_514 at_516 22 32 23 517 ?_
   intro T257 h257 L257 X257 e257 K257 P257 N257
   refine own_ql X257 hx hby hZ107 e257 K257 P257 N257 g228 at_517 at_518 at_520 at_522 23 c7 24 523 hcx7 (by rfl) ?_
   intro T258 h258 L258 X258 e258 K258 P258 N258
   refine own_qb X258 hx hby hZ107 e258 K258 P258 N258 g228 at_523 at_524 at_526 at_528 24 58 25 529 ?_
   intro T259 h259 L259 X259 e259 K259 P259 N259
   refine own_qb X259 hx hby hZ107 e259 K259 P259 N259 g228 at_529 at_530 at_532 at_534 25 32 26 535 ?_
   intro T260 h260 L260 X260 e260 K260 P260 N260
   refine own_qb X260 hx hby hZ107 e260 K260 P260 N260 g228 at_535 at_536 at_538 at_540 26 116 27 541 ?_
   intro T261 h261 L261 X261 e261 K261 P261 N261
   refine own_qb X261 hx hby hZ107 e261 K261 P261 N261 g228 at_541 at_542 at_544 at_546 27 104 28 547 ?_
   intro T262 h262 L262 X262 e262 K262 P262 N262
   refine own_qb X262 hx hby hZ107 e262 K262 P262 N262 g228 at_547 at_548 at_550 at_552 28 101 29 553 ?_
   intro T263 h263 L263 X263 e263 K263 P263 N263
   refine own_qb X263 hx hby hZ107 e263 K263 P263 N263 g228 at_553 at_554 at_556 at_558 29 32 30 559 ?_
   intro T264 h264 L264 X264 e264 K264 P264 N264
   refine own_qb X264 hx hby hZ107 e264 K264 P264 N264 g228 at_559 at_560 at_562 at_564 30 101 31 565 ?_
   intro T265 h265 L265 X265 e265 K265 P265 N265
   refine own_qb X265 hx hby hZ107 e265 K265 P265 N265 g228 at_565 at_566 at_568 at_570 31 108 32 571 ?_
   intro T266 h266 L266 X266 e266 K266 P266 N266
   refine own_qb X266 hx hby hZ107 e266 K266 P266 N266 g228 at_571 at_572 at_574 at_576 32 101 33 577 ?_
   intro T267 h267 L267 X267 e267 K267 P267 N267
   refine own_qb X267 hx hby hZ107 e267 K267 P267 N267 g228 at_577 at_578 at_580 at_582 33 109 34 583 ?_
   intro T268 h268 L268 X268 e268 K268 P268 N268
   refine own_qb X268 hx hby hZ107 e268 K268 P268 N268 g228 at_583 at_584 at_586 at_588 34 101 35 589 ?_
   intro T269 h269 L269 X269 e269 K269 P269 N269
   refine own_qb X269 hx hby hZ107 e269 K269 P269 N269 g228 at_589 at_590 at_592 at_594 35 110 36 595 ?_
   intro T270 h270 L270 X270 e270 K270 P270 N270
   refine own_qb X270 hx hby hZ107 e270 K270 P270 N270 g228 at_595 at_596 at_598 at_600 36 116 37 601 ?_
   intro T271 h271 L271 X271 e271 K271 P271 N271
   refine own_qb X271 hx hby hZ107 e271 K271 P271 N271 g228 at_601 at_602 at_604 at_606 37 32 38 607 ?_
   intro T272 h272 L272 X272 e272 K272 P272 N272
   refine own_qb X272 hx hby hZ107 e272 K272 P272 N272 g228 at_607 at_608 at_610 at_612 38 60 39 613 ?_
   intro T273 h273 L273 X273 e273 K273 P273 N273
   refine own_ql X273 hx hby hZ107 e273 K273 P273 N273 g228 at_613 at_614 at_616 at_618 39 c8 40 619 hcx8 (by rfl) ?_
   intro T274 h274 L274 X274 e274 K274 P274 N274
   refine own_qb X274 hx hby hZ107 e274 K274 P274 N274 g228 at_619 at_620 at_622 at_624 40 62 41 625 ?_
   intro T275 h275 L275 X275 e275 K275 P275 N275
   refine own_qb X275 hx hby hZ107 e275 K275 P275 N275 g228 at_625 at_626 at_628 at_630 41 32 42 631 ?_
   intro T276 h276 L276 X276 e276 K276 P276 N276
   refine own_qb X276 hx hby hZ107 e276 K276 P276 N276 g228 at_631 at_632 at_634 at_636 42 105 43 637 ?_
   intro T277 h277 L277 X277 e277 K277 P277 N277
   refine own_qb X277 hx hby hZ107 e277 K277 P277 N277 g228 at_637 at_638 at_640 at_642 43 115 44 643 ?_
   intro T278 h278 L278 X278 e278 K278 P278 N278
   refine own_qb X278 hx hby hZ107 e278 K278 P278 N278 g228 at_643 at_644 at_646 at_648 44 32 45 649 ?_
   intro T279 h279 L279 X279 e279 K279 P279 N279
   refine own_qb X279 hx hby hZ107 e279 K279 P279 N279 g228 at_649 at_650 at_652 at_654 45 110 46 655 ?_
   intro T280 h280 L280 X280 e280 K280 P280 N280
   refine own_qb X280 hx hby hZ107 e280 K280 P280 N280 g228 at_655 at_656 at_658 at_660 46 111 47 661 ?_
   intro T281 h281 L281 X281 e281 K281 P281 N281
   refine own_qb X281 hx hby hZ107 e281 K281 P281 N281 g228 at_661 at_662 at_664 at_666 47 116 48 667 ?_
   intro T282 h282 L282 X282 e282 K282 P282 N282
   refine own_qb X282 hx hby hZ107 e282 K282 P282 N282 g228 at_667 at_668 at_670 at_672 48 32 49 673 ?_
   intro T283 h283 L283 X283 e283 K283 P283 N283
   refine own_qb X283 hx hby hZ107 e283 K283 P283 N283 g228 at_673 at_674 at_676 at_678 49 114 50 679 ?_
   intro T284 h284 L284 X284 e284 K284 P284 N284
   refine own_qb X284 hx hby hZ107 e284 K284 P284 N284 g228 at_679 at_680 at_682 at_684 50 101 51 685 ?_
   intro T285 h285 L285 X285 e285 K285 P285 N285
   refine own_qb X285 hx hby hZ107 e285 K285 P285 N285 g228 at_685 at_686 at_688 at_690 51 97 52 691 ?_
   intro T286 h286 L286 X286 e286 K286 P286 N286
   refine own_qb X286 hx hby hZ107 e286 K286 P286 N286 g228 at_691 at_692 at_694 at_696 52 100 53 697 ?_
   intro T287 h287 L287 X287 e287 K287 P287 N287
   refine own_qb X287 hx hby hZ107 e287 K287 P287 N287 g228 at_697 at_698 at_700 at_702 53 58 54 703 ?_
   intro T288 h288 L288 X288 e288 K288 P288 N288
   refine own_qb X288 hx hby hZ107 e288 K288 P288 N288 g228 at_703 at_704 at_706 at_708 54 32 55 709 ?_
   intro T289 h289 L289 X289 e289 K289 P289 N289
   refine own_ql X289 hx hby hZ107 e289 K289 P289 N289 g228 at_709 at_710 at_712 at_714 55 c9 56 715 hcx9 (by rfl) ?_
   intro T290 h290 L290 X290 e290 K290 P290 N290
   obtain ⟨_, q292, -⟩ := id V227
   have ch291 := CHr.keep K290 (allS (Safe.arr hZ107.alike q292 nofun) all0) CH233.1
   have CH293 := CHr.trans CH233 ch291
   have Pm234 := P290.cast (ds := (((((([] : List Int32) ++ cL0) ++ ([c6] : List Int32)) ++ ((([] : List Int32) ++ cL3) ++ ([(48 + ln)] : List Int32))) ++ ([58, 32] : List Int32)) ++ (((((([] : List Int32) ++ ([c7] : List Int32)) ++ cL1) ++ ([c8] : List Int32)) ++ cL2) ++ ([c9] : List Int32)))) (by simp only [List.append_assoc, List.nil_append, List.cons_append, List.append_nil])
   have F294 := ((f120.ext E227).keep K290 (ninS (own_ne_lo f120.lt (Nat.le_of_eq gb227.symm)) nin0) (ninS (own_ne_lo f120.ltb (Nat.le_of_eq gb227.symm)) nin0))
   have Sm234 : own_st Z h290 o110 o111 (((((([] : List Int32) ++ cL0) ++ ([c6] : List Int32)) ++ ((([] : List Int32) ++ cL3) ++ ([(48 + ln)] : List Int32))) ++ ([58, 32] : List Int32)) ++ (((((([] : List Int32) ++ ([c7] : List Int32)) ++ cL1) ++ ([c8] : List Int32)) ++ cL2) ++ ([c9] : List Int32))) (56 : Int32) := by have q := F294; rw [own_lmN hc129, own_mlN hc129] at q; exact q
   refine og T290 (mkF m 724 #[vI pi0, vI pi1, vI pi2, vI pi3, vI pi4, vI ln, vI c6, vI c7, vI c8, vI c9, vR b2, vR o109, vR b227, vI ((48 : Int32) + ln)] [.ref o109]) (fun _ k => XS.astore X290.here hx rfl (hb hby at_715) rfl rfl (l' := #[vI pi0, vI pi1, vI pi2, vI pi3, vI pi4, vI ln, vI c6, vI c7, vI c8, vI c9, vR b2, vR o109, vR b227, vI ((48 : Int32) + ln)]) rfl (XS.aload X290.here hx rfl (hb hby at_717) rfl rfl (XS.ifnullNo X290.here hx rfl (hb hby at_719) rfl (XS.aload X290.here hx rfl (hb hby at_722) rfl rfl k)))) ?_
   have F295 := ((f116.ext E227).keep K290 (ninS (own_ne_lo f115.lt (Nat.le_of_eq gb227.symm)) nin0))
   have F296 := ((f117.ext E227).keep K290 (ninS (own_ne_lo f115.lt (Nat.le_of_eq gb227.symm)) nin0))
   have F298 := ((f115.ext E227).keep K290)
   obtain ⟨cq297, kq297, q297a, q297b, q297c⟩ := isOf hZ107 e290 F298
   obtain ⟨_, _, ⟨T297, L297, k297, n297⟩, -, X297, ⟨hv297, eq297, l297, y297, z297⟩, st297⟩ := X290.virtualBackUp hx (x := y52) (y := y53) hown107 (mvT hZ107 (ow hw 269)) (mvT hZ107 (ow hw 270)) (mvT hZ107 (ow hw 271)) (by decide) (mvT hZ107 (ow hw 273)) (mvT hZ107 (ow hw 272)) (gcBackPure (rm := { frames := 0, cells := 0, slots := 0, locals := 0 }) (W := 0) hZ107 (ow hw 274) (ow hw 272) (ow hw 229) (ow hw 232) F295 F296 rfl (lb rfl) (lb rfl)) q297a q297c (g := (mkF m 724 #[vI pi0, vI pi1, vI pi2, vI pi3, vI pi4, vI ln, vI c6, vI c7, vI c8, vI c9, vR b2, vR o109, vR b227, vI ((48 : Int32) + ln)] [.ref o109])) rfl (zs hml) (Steps.refl _) (argsL := []) (rest := []) (lenOf pd_38 rfl) rfl (lb rfl) (hb hby at_724) (fun _ _ => ⟨rfl, e290, (lb rfl), (lb rfl)⟩)
   dsimp only [Pt.U, Pt.locs, Pt.cells, Pt.slots] at X297 l297 y297 z297 st297 hv297 eq297
   subst l297 y297 z297
   rw [gcv_null] at hv297
   subst hv297
   refine og T297 (mkF m 730 #[vI pi0, vI pi1, vI pi2, vI pi3, vI pi4, vI ln, vI c6, vI c7, vI c8, vI c9, vR b2, vR o109, vR b227, vI ((48 : Int32) + ln)] []) (fun _ k => st297.trans (XS.ifnonnullNo X297.here hx rfl (hb hby at_727) rfl k)) ?_
   obtain ⟨T299, h299, X299, e299, E299, A299, D299, U299, st299⟩ := newO X297 hx hZ107 hown107 (ow hw 275) (ow hw 13) (ow hw 5) eq297 (g := (mkF m 730 #[vI pi0, vI pi1, vI pi2, vI pi3, vI pi4, vI ln, vI c6, vI c7, vI c8, vI c9, vR b2, vR o109, vR b227, vI ((48 : Int32) + ln)] [])) rfl (hb hby at_730) (lb rfl) (lb rfl)
   obtain ⟨b299, gb299⟩ : ∃ z, z = h290.size := ⟨_, rfl⟩
   rw [← gb299] at A299 D299 U299 st299
   have F301 := ((F229.ext E227).keep K290 (allS g228 all0))
   have g300 : n0 ≤ b299 := Nat.le_trans (own_osz F301) (Nat.le_of_eq gb299.symm)
   have F303 := (Nat.le_trans (Nat.le_trans F231 E227.1) K290.1)
   have z302 : h0.size ≤ b299 := Nat.le_trans F303 (Nat.le_of_eq gb299.symm)
   have ch304 := CHr.ext E299 CH293.1
   have CH305 := CHr.trans CH293 ch304
   have sf306 := own_safe_new CH293.1 E299 (Nat.le_of_eq gb299.symm)
   refine og T299 (mkF m 736 #[vI pi0, vI pi1, vI pi2, vI pi3, vI pi4, vI ln, vI c6, vI c7, vI c8, vI c9, vR b2, vR o109, vR b227, vI ((48 : Int32) + ln)] [.ref b227, .ref b299, .ref b299]) (fun _ k => st299 _ (XS.dup X299.here hx rfl (hb hby at_733) rfl rfl (XS.aload X299.here hx rfl (hb hby at_734) rfl rfl k))) ?_
   have F307 := (Pm234.1.ext E299)
   have F308 := (F301.ext E299)
   obtain ⟨_, T309, L309, X309, hQ309, st309⟩ := own_sc X299 hx hZ107 rfl hown107 (ow hw 276) (ow hw 277) (rm42_91 l Z a0 hw b299 b227 k227 ((((((([] : List Int32) ++ cL0) ++ ([c6] : List Int32)) ++ ((([] : List Int32) ++ cL3) ++ ([(48 + ln)] : List Int32))) ++ ([58, 32] : List Int32)) ++ (((((([] : List Int32) ++ ([c7] : List Int32)) ++ cL1) ++ ([c8] : List Int32)) ++ cL2) ++ ([c9] : List Int32)))) ((56 : Int32)) G1 h299 n0 F308 A299 (D299 (Or.inr (ow hw 26)) (ty := (.array .byte)) (by decide)) (D299 (Or.inr (ow hw 28)) (ty := .byte) (by decide)) F307 (Pm234.2.1.trans (by decide)) (by decide) Pm234.2.2 O2 P5 Sas SHI SLO g300 (by decide)) (ow hw 278) (ow hw 5) e299 (g := (mkF m 736 #[vI pi0, vI pi1, vI pi2, vI pi3, vI pi4, vI ln, vI c6, vI c7, vI c8, vI c9, vR b2, vR o109, vR b227, vI ((48 : Int32) + ln)] [.ref b227, .ref b299, .ref b299])) rfl (zs hml) (argsL := [.ref b227]) (rest := [.ref b299]) (lenOf pd_44 rfl) rfl (hb hby at_736) (W := 1) rfl
   obtain ⟨o310, rfl, Nq309, K309, f311, f312⟩ := hQ309
   have N309 := Fr.app N290 Nq309
   have g313 : n0 ≤ o310 := Nat.le_trans (own_osz F308) f311
   have F315 := (Nat.le_trans F303 E299.1)
   have z314 : h0.size ≤ o310 := Nat.le_trans F315 f311
   have ch316 := CHr.keep K309 (allS sf306 all0) CH305.1
   have CH317 := CHr.trans CH305 ch316
   have sf318 := Safe.keep K309 (allS sf306 all0) CH305.1 (Safe.new f311)
   refine og T309 (mkF m 741 #[vI pi0, vI pi1, vI pi2, vI pi3, vI pi4, vI ln, vI c6, vI c7, vI c8, vI c9, vR b2, vR o109, vR b227, vI ((48 : Int32) + ln)] [.ref o109, .ref b299]) (fun _ k => st309.trans (XS.aload X309.here hx rfl (hb hby at_739) rfl rfl k)) ?_
   have ne319 : o109 ≠ b299 := (own_ne_lo (Nat.lt_of_lt_of_le (Nat.lt_of_lt_of_le f115.lt E227.1) K290.1) (Nat.le_of_eq gb299.symm))
   have F320 := ((((f118.ext E227).keep K290 (ninS (own_ne_lo f115.lt (Nat.le_of_eq gb227.symm)) nin0)).ext E299).keep K309 (ninS ne319 nin0))
   have F321 := (F308.keep K309 (allS g300 all0))
   have F324 := ((F298.ext E299).keep K309)
   obtain ⟨cq323, kq323, q323a, q323b, q323c⟩ := isOf hZ107 rfl F324
   obtain ⟨_, _, ⟨T323, L323, k323, n323⟩, -, X323, ⟨Lc323, hQ323, l323, y323, z323⟩, st323⟩ := X309.virtualBackUp hx (x := y62) (y := y61) hown107 (mvT hZ107 (ow hw 292)) (mvT hZ107 (ow hw 293)) (mvT hZ107 (ow hw 294)) (by decide) (mvT hZ107 (ow hw 296)) (mvT hZ107 (ow hw 295)) (backOf (W := 1) (rm47_98 l Z a0 hw o109 o110 T309.heap n0 F321 F320) hZ107 (ow hw 297) (ow hw 229) (lb rfl) (lb rfl)) q323a q323c (g := (mkF m 741 #[vI pi0, vI pi1, vI pi2, vI pi3, vI pi4, vI ln, vI c6, vI c7, vI c8, vI c9, vR b2, vR o109, vR b227, vI ((48 : Int32) + ln)] [.ref o109, .ref b299])) rfl (zs hml) (Steps.refl _) (argsL := []) (rest := [.ref b299]) (lenOf pd_30 rfl) rfl (lb rfl) (hb hby at_741) (fun _ _ => ⟨rfl, rfl, (lb rfl), (lb rfl)⟩)
   dsimp only [Pt.U, Pt.locs, Pt.cells, Pt.slots] at X323 l323 y323 z323 st323 hQ323
   subst l323 y323 z323
   obtain ⟨rfl, Nq323, eq323⟩ := hQ323
   have N323 := Fr.app N309 Nq323
   refine ot T323 (mkF m 744 #[vI pi0, vI pi1, vI pi2, vI pi3, vI pi4, vI ln, vI c6, vI c7, vI c8, vI c9, vR b2, vR o109, vR b227, vI ((48 : Int32) + ln)] [.ref o110, .ref b299]) st323 ?_
   have ne325 : o110 ≠ b299 := (own_ne_lo (Nat.lt_of_lt_of_le (Nat.lt_of_lt_of_le f120.lt E227.1) K290.1) (Nat.le_of_eq gb299.symm))
   have ne326 : o111 ≠ b299 := (own_ne_lo (Nat.lt_of_lt_of_le (Nat.lt_of_lt_of_le f120.ltb E227.1) K290.1) (Nat.le_of_eq gb299.symm))
   have F327 := ((Sm234.ext E299).keep K309 (ninS ne325 nin0) (ninS ne326 nin0))
   have F329 := (A299.keep K309)
   obtain ⟨_, T328, L328, X328, hQ328, st328⟩ := own_vc X323 hx hZ107 hown107 (ow hw 298) (ow hw 299) (ow hw 301) (ow hw 300) F329 (rm48_99 l Z a0 hw b299 o310 o110 o111 ((((((([] : List Int32) ++ cL0) ++ ([c6] : List Int32)) ++ ((([] : List Int32) ++ cL3) ++ ([(48 + ln)] : List Int32))) ++ ([58, 32] : List Int32)) ++ (((((([] : List Int32) ++ ([c7] : List Int32)) ++ cL1) ++ ([c8] : List Int32)) ++ cL2) ++ ([c9] : List Int32)))) ((56 : Int32)) G1 T309.heap n0 F321 f312 F327 (Ne.symm ne325) O2 P5 (by decide)) (ow hw 302) (ow hw 5) eq323 (g := (mkF m 744 #[vI pi0, vI pi1, vI pi2, vI pi3, vI pi4, vI ln, vI c6, vI c7, vI c8, vI c9, vR b2, vR o109, vR b227, vI ((48 : Int32) + ln)] [.ref o110, .ref b299])) rfl (zs hml) (argsL := [.ref o110]) (rest := []) (lenOf pd_46 rfl) rfl (hb hby at_744) (W := 0) rfl
   obtain ⟨rfl, Nq328, eq328⟩ := hQ328
   have N328 := Fr.app N323 Nq328
   refine og T328 (mkF m 755 #[vI pi0, vI pi1, vI pi2, vI pi3, vI pi4, vI ln, vI c6, vI c7, vI c8, vI c9, vR b2, vR o109, vR b227, vI ((48 : Int32) + ln)] [.int 1]) (fun _ k => st328.trans (XS.ifNo X328.here hx rfl (hb hby at_747) rfl ((if0 _ _).trans (feq (by decide : ¬ ((1 : Int32) = (0 : Int32)))).1) (XS.iconst X328.here hx rfl (hb hby at_750) (XS.goto X328.here hx rfl (pc0 := 751) (pc' := 755) rfl (hb hby at_751) (by decide) (by decide) k)))) ?_
   have F330 := (Nat.le_trans (Nat.le_trans (Nat.le_trans (Nat.le_trans (Nat.le_refl _) E227.1) K290.1) E299.1) K309.1)
   exact own_leaveW (s := s) (vm0 := T107.vm) X328 hS107 F330 hZ107 (own_EW hw) eq328 CH317 hh hlk (v := some (.int (nar .boolean (1 : Int32)))) (own_nr hret) (lb rfl) (lb rfl) (by rw [eq328]; exact ⟨rfl, N328⟩) (fun fs hr => retN X328 hx (t := .boolean) hret (by simp) (hb hby at_755) hr)
 by_cases hc331 : pi0 < (1 : Int32)
 ·
  refine og s₁ (mkF m 17 #[vI pi0, vI pi1, vI pi2, vI pi3, vI pi4, vI pi0, vU, vU, vU, vU, vU, vU, vU, vU] []) (fun _ k => XS.icmpNo X0.here hx rfl (hb hby at_2) rfl (tlt hc331).2.1 (XS.iloadN X0.here hx rfl (hb hby at_5) rfl (XS.goto X0.here hx rfl (pc0 := 6) (pc' := 15) rfl (hb hby at_6) (by decide) (by decide) (XS.istore X0.here hx rfl (hb hby at_15) rfl (l' := #[vI pi0, vI pi1, vI pi2, vI pi3, vI pi4, vI pi0, vU, vU, vU, vU, vU, vU, vU, vU]) rfl k)))) ?_
  exact J1 _ (own_l1 hc331)
 ·
  refine og s₁ (mkF m 17 #[vI pi0, vI pi1, vI pi2, vI pi3, vI pi4, vI ((1 : Int32) + (pi0 % (9 : Int32))), vU, vU, vU, vU, vU, vU, vU, vU] []) (fun _ k => XS.icmpYes X0.here hx rfl (pc0 := 2) (pc' := 9) rfl (hb hby at_2) rfl (flt hc331).2.1 (by decide) (by decide) (XS.iconst X0.here hx rfl (hb hby at_9) (XS.iloadN X0.here hx rfl (hb hby at_10) rfl (XS.bipush X0.here hx rfl (hb hby at_11) (Jvm.RoadKit.iremM X0 hx rfl (hb hby at_13) rfl (by decide) (XS.iadd X0.here hx rfl (hb hby at_14) rfl (XS.istore X0.here hx rfl (hb hby at_15) rfl (l' := #[vI pi0, vI pi1, vI pi2, vI pi3, vI pi4, vI ((1 : Int32) + (pi0 % (9 : Int32))), vU, vU, vU, vU, vU, vU, vU, vU]) rfl k))))))) ?_
  exact J1 _ (own_l9 _)
set_option maxRecDepth 65536 in
set_option maxHeartbeats 40000000 in
theorem comes_1 {Post : Tables → Env → Array Value → State → Outcome → State → Prop} (hpost : ∀ tb e args s v u, (limb_1_1.after args s (.returned v) u = true ∧ limb_1_2.after args s (.returned v) u = true ∧ True) → ReturnedEndW s (.returned v) u (Jvm.fieldLocs frame_1_writes args s ++ Jvm.arrayLocs frame_1_arrays args s ++ Jvm.staticLocs frame_1_statics s) 88 14528 → Post tb e args s (.returned v) u) :
    ArmFor flags0 classFile x code maxLocals ret World_1 tables_1 room_1 Calls_1 rest_1 Pre_1 Post := by
  intro l hfl _ _ p e ha hc hk s m args below hf hA hF happ hP
  obtain ⟨hcalls, hrest, hpre⟩ := hP
  obtain ⟨-, -, -, hnamed, -, -, -, hat⟩ := (Spec.applies_iff hf).mp happ
  obtain ⟨hg, hn⟩ := and_e (Cond.before_iff.mp (show (Jvm.Cond.and given_1 narrow_1).before args s = true from hpre))
  obtain ⟨gv0, gr0⟩ := and_e hg
  obtain ⟨gv1, gr1⟩ := and_e gr0
  obtain ⟨gv2, gr2⟩ := and_e gr1
  obtain ⟨gv3, gr3⟩ := and_e gr2
  obtain ⟨gv4, gv5⟩ := and_e gr3
  obtain ⟨w0, w1, w2, w3, w4, rfl⟩ : ∃ w0 w1 w2 w3 w4 : Value, args = #[w0, w1, w2, w3, w4] := by
    have hs : args.size = 5 := by simpa [Cond.value, given_1] using gv0
    obtain ⟨L⟩ := args
    match L, hs with
    | [w0, w1, w2, w3, w4], _ => exact ⟨w0, w1, w2, w3, w4, rfl⟩
  have hw := fun d (hd : d ∈ tables_1) => atoms_spec (ws := Jvm.Cond.code x code maxLocals ret :: tables_1) hat d (List.mem_cons_of_mem _ hd)
  have hfit : Fit s := fun {y c} hc i hi => by
    obtain ⟨ha, rfl⟩ := Array.getElem?_eq_some_iff.mp hc
    have q := List.all_eq_true.mp ((Array.all_eq_true_iff_forall_mem.mp hF) _ (Array.getElem_mem ha)) i (List.mem_range.mpr hi)
    simpa [Array.getElem?_eq_getElem hi] using q
  obtain ⟨hsets, hown0⟩ := atoms_of _ (rest_1_c_eq ▸ (show rest_1_c.before _ s = true from hrest))
  obtain ⟨i0, ei0⟩ := is_v gv1
  obtain rfl : w0 = (.int i0) := Option.some.inj ei0
  obtain ⟨i1, ei1⟩ := is_v gv2
  obtain rfl : w1 = (.int i1) := Option.some.inj ei1
  obtain ⟨i2, ei2⟩ := is_v gv3
  obtain rfl : w2 = (.int i2) := Option.some.inj ei2
  obtain ⟨i3, ei3⟩ := is_v gv4
  obtain rfl : w3 = (.int i3) := Option.some.inj ei3
  obtain ⟨i4, ei4⟩ := is_v gv5
  obtain rfl : w4 = (.int i4) := Option.some.inj ei4
  have n5 := not_v (Cond.before_iff.mp (hsets _ (List.mem_of_getElem? (i := 2) rfl)))
  obtain ⟨G1, eG1⟩ := is_v (Cond.before_iff.mp (hsets _ (List.mem_of_getElem? (i := 1) rfl)))
  have O2 : Sta s s.heap "java/lang/String" "COMPACT_STRINGS" "Z" (.int G1) := Sta.start eG1 (Or.inl (hsets _ (List.mem_of_getElem? (i := 0) rfl)))
  have P5 : ¬ (G1 = (0 : Int32)) := gotF (Cond.eq_ints eG1 (Term.int_eval (0))) n5
  obtain ⟨G3, eG3, rG3⟩ := isR_v (Cond.before_iff.mp (hsets _ (List.mem_of_getElem? (i := 8) rfl)))
  have O4 : Sta s s.heap "jdk/internal/util/Preconditions" "SIOOBE_FORMATTER" "Ljava/util/function/BiFunction;" G3 := Sta.start eG3 (Or.inl (hsets _ (List.mem_of_getElem? (i := 7) rfl)))
  have CHs : CHv s own_EL s.vm s.heap := CHv.start (own_EW hw) (fun p hp => own_held hcalls p hp) (hsets _ (List.mem_of_getElem? (i := 2) rfl)) (own_wa hw) (own_wi hw)
  have hl : l.stackTraces = true := by unfold Launch.stackTraces; rw [hfl]; decide
  obtain ⟨us, eus, fus⟩ := static_fit hfit (own_w hw 260) (ty := .array (.object "java/lang/StackTraceElement")) (by decide)
  have rus : us.isRef = true := fit_R fus rfl
  have rf_us := rus
  have Sus : Sta s s.heap "java/lang/Throwable" "UNASSIGNED_STACK" "[Ljava/lang/StackTraceElement;" us := Sta.start eus (Or.inr ⟨(own_w hw 229), (own_w hw 260)⟩)
  obtain ⟨up, eup, fup⟩ := static_fit hfit (own_w hw 261) (ty := .object "java/util/List") (by decide)
  have rup : up.isRef = true := fit_R fup rfl
  have rf_up := rup
  have Sup : Sta s s.heap "java/lang/Throwable" "SUPPRESSED_SENTINEL" "Ljava/util/List;" up := Sta.start eup (Or.inr ⟨(own_w hw 229), (own_w hw 261)⟩)
  obtain ⟨dg, kdg, edg, VG0⟩ := own_ones hfit (hsets _ (List.mem_of_getElem? (i := 32) rfl)) (hsets _ (List.mem_of_getElem? (i := 33) rfl)) (hsets _ (List.mem_of_getElem? (i := 34) rfl)) (own_wa hw)
  have SG0 : Sta s s.heap "java/lang/Integer" "DigitOnes" "[B" (.ref dg) := Sta.start edg (Or.inl (hsets _ (List.mem_of_getElem? (i := 31) rfl)))
  have Sas : Sta s s.heap "java/lang/StringUTF16" "$assertionsDisabled" "Z" (.int (1 : Int32)) := Sta.start (Cond.eq_int (hsets _ (List.mem_of_getElem? (i := 43) rfl)) rfl) (Or.inl (hsets _ (List.mem_of_getElem? (i := 42) rfl)))
  have SHI : Sta s s.heap "java/lang/StringUTF16" "HI_BYTE_SHIFT" "I" (.int (0 : Int32)) := Sta.start (Cond.eq_int (hsets _ (List.mem_of_getElem? (i := 46) rfl)) rfl) (Or.inl (hsets _ (List.mem_of_getElem? (i := 45) rfl)))
  have SLO : Sta s s.heap "java/lang/StringUTF16" "LO_BYTE_SHIFT" "I" (.int (8 : Int32)) := Sta.start (Cond.eq_int (hsets _ (List.mem_of_getElem? (i := 49) rfl)) rfl) (Or.inl (hsets _ (List.mem_of_getElem? (i := 48) rfl)))
  obtain ⟨n, o, h1, h2, h3, _, L, rfl, ⟨rfl, N⟩, -, hq⟩ := rmlaw l s _ hw i0 i1 i2 i3 i4 G1 G3 us up dg kdg s.heap s.heap.size (Old.start s) O2 P5 Sas SHI SLO O4 rG3 Sus rf_us Sup rf_up hl rus SG0 VG0 p e ha hc hk s m _ below hf ((Spec.applies_iff_loose hf).mp happ).1 ⟨rfl, State.Warmed39.refl s, rfl, CHs, all0⟩ (fun _ => ⟨MethodsKnown_of_tablesKnown hcalls.2.1, FramesKnown_of_framesKnown hcalls.1 hf⟩)
  refine ⟨n, _, h1, h2, h3, hpost _ _ _ _ _ _ ⟨Cond.after_iff.mpr rfl, Cond.after_iff.mpr (eq_i res_at (Term.int_eval (1)) rfl), trivial⟩ ⟨hq.1, hq.2.1, hq.2.2.1, (hq.2.2.2.sift fun y hy => Or.inr (N y hy)).mono (by decide) (by decide)⟩⟩
theorem main_1_1 : Claimed_1_1 := comes_1 fun _ _ _ _ _ _ h hF => ⟨h.1, hF⟩
theorem main_1_2 : Claimed_1_2 := comes_1 fun _ _ _ _ _ _ h hF => ⟨h.2.1, hF⟩
end Jvm.Pilot.@@N@@
namespace Jvm.Pilot.@@N@@
open Jvm Jvm.ClassFile Sem Op Lib Jvm.Free Jvm.Stand Jvm.Pilot.@@N@@.Jvm.D
/-! MADE BY PROGRAM (witnessworld.py) out of the Statement's table words and the real class files: 46 classes; the members and pool entries that the words name. The judged class is class 1, her method 1. -/
namespace start1
set_option maxRecDepth 65536
open Jvm.ClassFile
def u (s : String) : CpInfo := .utf8 (stringToUtf16 s)
def gap : Nat → List CpInfo → List CpInfo
  | 0, r => r
  | n + 1, r => .unusable :: gap n r
def poolList (es : List (Nat × CpInfo)) (last : Nat) : List CpInfo := es.foldr (fun e r => gap e.1 (e.2 :: r)) (gap last [])
def pool (es : List (Nat × CpInfo)) (last : Nat) : Array CpInfo := ⟨poolList es last⟩
def fileOf (pool : Array CpInfo) (this : Nat) (attrs : Array Attribute := #[]) (ms : Array MethodInfo := #[]) (fl : Nat := 33) (sup : Nat := 0) (ifs : Array Nat := #[]) (fds : Array FieldInfo := #[]) : ClassFile where
  minorVersion := 0
  majorVersion := 65
  constantPool := pool
  accessFlags := fl
  thisClass := this
  superClass := sup
  interfaces := ifs
  fields := fds
  methods := ms
  attributes := attrs
def plain (name : String) (sup : Option ClassId) : Class where
  name := name
  kind := .ordinary
  loader := none
  accessFlags := 33
  super := sup
  interfaces := #[]
  cf := none
  fields := #[]
  methods := #[]
  instanceTypes := #[]
  staticTypes := #[]
  resolved := #[]
  callSites := []
  init := .initialized
  statics := none
  mirror := none

def pool0 : Array CpInfo := pool [(5, u "<init>"), (0, u "()V"), (1, .class_ 10), (1, u "java/lang/Object"), (85, u "clone"), (0, u "()Ljava/lang/Object;")] 26

def k0c0 : Code := { maxStack := 0, maxLocals := 1, code := object_method_1_code, exceptionTable := #[], attributes := #[] }
def k0m0 : Method := ⟨"<init>", "()V", ⟨[], none⟩, 1, some k0c0⟩
def k0m1 : Method := ⟨"clone", "()Ljava/lang/Object;", ⟨[], some (.object "java/lang/Object")⟩, 260, none⟩
def k0 : Class := { plain "java/lang/Object" none with
  accessFlags := 33
  interfaces := #[]
  cf := some (fileOf pool0 8 #[] #[⟨1, 5, 6, #[]⟩, ⟨260, 96, 97, #[]⟩] 33 0 #[] #[])
  fields := #[]
  methods := #[k0m0, k0m1]
  instanceTypes := #[]
  staticTypes := #[]
  resolved := Array.replicate 124 none
  statics := none }

def pool1 : Array CpInfo := pool [(2, .class_ 4), (1, u "java/lang/Object"), (0, u "<init>"), (0, u "()V"), (0, .class_ 8), (0, u "com/example/oyster/oyster/XmlElement"), (0, .methodref 10 11), (0, .class_ 12), (0, .nameAndType 13 14), (0, u "java/lang/String"), (0, u "valueOf"), (0, u "(C)Ljava/lang/String;"), (0, .string 16), (0, u ""), (0, .methodref 7 18), (0, .nameAndType 5 19), (0, u "(Ljava/lang/String;Ljava/util/Map;Ljava/lang/String;Ljava/util/List;Ljava/lang/String;I)V"), (0, .methodref 7 21), (0, .nameAndType 22 23), (0, u "unread"), (0, u "(Ljava/lang/String;Ljava/lang/String;)Lcom/example/oyster/oyster/XmlDefinitionException;"), (0, .methodref 25 26), (0, .class_ 27), (0, .nameAndType 28 29), (0, u "com/example/oyster/oyster/XmlDefinitionException"), (0, u "getCause"), (0, u "()Ljava/lang/Throwable;"), (0, .methodref 10 31), (0, .nameAndType 5 32), (0, u "([C)V"), (0, .methodref 25 34), (0, .nameAndType 35 36), (0, u "getMessage"), (0, u "()Ljava/lang/String;"), (0, .methodref 10 38), (0, .nameAndType 39 40), (0, u "equals"), (0, u "(Ljava/lang/Object;)Z"), (0, .class_ 42), (0, u "com/example/oyster/oyster/XmlElementUnreadPinLaw"), (2, u "law"), (0, u "(IIIII)Z")] 5

def k1m0 : Method := ⟨"<init>", "()V", ⟨[], none⟩, 1, none⟩
def k1c1 : Code := { maxStack := 8, maxLocals := 14, code := code, exceptionTable := #[], attributes := #[] }
def k1m1 : Method := ⟨"law", "(IIIII)Z", ⟨[.int, .int, .int, .int, .int], some .boolean⟩, 9, some k1c1⟩
def k1 : Class := { plain "com/example/oyster/oyster/XmlElementUnreadPinLaw" (some 0) with
  accessFlags := 49
  interfaces := #[]
  cf := some (fileOf pool1 41 #[] #[⟨1, 5, 6, #[]⟩, ⟨9, 45, 46, #[]⟩] 49 2 #[] #[])
  fields := #[]
  methods := #[k1m0, k1m1]
  instanceTypes := #[]
  staticTypes := #[]
  resolved := Array.replicate 52 none
  statics := none }

def pool2 : Array CpInfo := pool [(1, .methodref 2 3), (0, .class_ 4), (0, .nameAndType 5 6), (0, u "java/lang/Object"), (0, u "<init>"), (0, u "()V"), (0, .class_ 8), (0, u "java/lang/Record")] 13

def k2c0 : Code := { maxStack := 1, maxLocals := 1, code := jdk_30_method_1_code, exceptionTable := #[], attributes := #[] }
def k2m0 : Method := ⟨"<init>", "()V", ⟨[], none⟩, 4, some k2c0⟩
def k2 : Class := { plain "java/lang/Record" (some 0) with
  accessFlags := 1057
  interfaces := #[]
  cf := some (fileOf pool2 7 #[] #[⟨4, 5, 6, #[]⟩] 1057 2 #[] #[])
  fields := #[]
  methods := #[k2m0]
  instanceTypes := #[]
  staticTypes := #[]
  resolved := Array.replicate 22 none
  statics := none }

def pool3 : Array CpInfo := pool [(1, .methodref 2 3), (0, .class_ 4), (0, .nameAndType 5 6), (0, u "java/lang/Record"), (0, u "<init>"), (0, u "()V"), (0, .fieldref 8 9), (0, .class_ 10), (0, .nameAndType 11 12), (0, u "com/example/oyster/oyster/XmlElement"), (0, u "name"), (0, u "Ljava/lang/String;"), (0, .fieldref 8 14), (0, .nameAndType 15 16), (0, u "attributes"), (0, u "Ljava/util/Map;"), (0, .fieldref 8 18), (0, .nameAndType 19 12), (0, u "text"), (0, .fieldref 8 21), (0, .nameAndType 22 23), (0, u "children"), (0, u "Ljava/util/List;"), (0, .fieldref 8 25), (0, .nameAndType 26 12), (0, u "document"), (0, .fieldref 8 28), (0, .nameAndType 29 30), (0, u "line"), (0, u "I"), (0, .class_ 32), (0, u "com/example/oyster/oyster/XmlElement$Tree"), (31, .class_ 65), (0, u "com/example/oyster/oyster/XmlElement$KeptOpen"), (10, .class_ 77), (0, u "com/example/oyster/oyster/XmlDefinitionException"), (7, u "()Ljava/lang/String;"), (0, .methodref 76 87), (0, .nameAndType 5 88), (0, u "(Ljava/lang/String;ILjava/lang/String;Ljava/lang/Throwable;)V"), (15, .class_ 105), (0, u "java/lang/StringBuilder"), (0, .methodref 104 3), (0, .methodref 104 108), (0, .nameAndType 109 110), (0, u "append"), (0, u "(Ljava/lang/String;)Ljava/lang/StringBuilder;"), (6, .methodref 104 118), (0, .nameAndType 119 85), (0, u "toString"), (0, .methodref 8 121), (0, .nameAndType 122 123), (0, u "refusal"), (0, u "(Ljava/lang/String;Ljava/lang/Throwable;)Lcom/example/oyster/oyster/XmlDefinitionException;"), (63, u "unread"), (0, u "(Ljava/lang/String;Ljava/lang/String;)Lcom/example/oyster/oyster/XmlDefinitionException;"), (31, .string 221), (0, u ": the element <"), (0, .string 223), (0, u "> is not read: "), (87, u "SCHEMA_LOCATIONS"), (0, u "Ljava/util/Set;"), (3, u "DESCRIPTION"), (4, u "(Ljava/lang/String;Ljava/util/Map;Ljava/lang/String;Ljava/util/List;Ljava/lang/String;I)V"), (30, .class_ 353), (0, u "com/example/oyster/oyster/XmlElement$Open")] 26

def k3c0 : Code := { maxStack := 2, maxLocals := 7, code := prog_28_method_1_code, exceptionTable := #[], attributes := #[] }
def k3m0 : Method := ⟨"<init>", "(Ljava/lang/String;Ljava/util/Map;Ljava/lang/String;Ljava/util/List;Ljava/lang/String;I)V", ⟨[(.object "java/lang/String"), (.object "java/util/Map"), (.object "java/lang/String"), (.object "java/util/List"), (.object "java/lang/String"), .int], none⟩, 0, some k3c0⟩
def k3c1 : Code := { maxStack := 6, maxLocals := 3, code := prog_28_method_3_code, exceptionTable := #[], attributes := #[] }
def k3m1 : Method := ⟨"refusal", "(Ljava/lang/String;Ljava/lang/Throwable;)Lcom/example/oyster/oyster/XmlDefinitionException;", ⟨[(.object "java/lang/String"), (.object "java/lang/Throwable")], some (.object "com/example/oyster/oyster/XmlDefinitionException")⟩, 0, some k3c1⟩
def k3c2 : Code := { maxStack := 3, maxLocals := 3, code := prog_28_method_11_code, exceptionTable := #[], attributes := #[] }
def k3m2 : Method := ⟨"unread", "(Ljava/lang/String;Ljava/lang/String;)Lcom/example/oyster/oyster/XmlDefinitionException;", ⟨[(.object "java/lang/String"), (.object "java/lang/String")], some (.object "com/example/oyster/oyster/XmlDefinitionException")⟩, 0, some k3c2⟩
def k3 : Class := { plain "com/example/oyster/oyster/XmlElement" (some 2) with
  accessFlags := 48
  interfaces := #[]
  cf := some (fileOf pool3 8 #[.nestMembers #[31, 352, 64]] #[⟨0, 5, 321, #[]⟩, ⟨0, 122, 123, #[]⟩, ⟨0, 187, 188, #[]⟩] 48 2 #[] #[⟨18, 11, 12, #[]⟩, ⟨18, 15, 16, #[]⟩, ⟨18, 19, 12, #[]⟩, ⟨18, 22, 23, #[]⟩, ⟨18, 26, 12, #[]⟩, ⟨18, 29, 30, #[]⟩, ⟨26, 316, 12, #[]⟩, ⟨26, 311, 312, #[]⟩])
  fields := #[⟨"name", (.object "java/lang/String"), 18, 0, 0⟩, ⟨"attributes", (.object "java/util/Map"), 18, 1, 0⟩, ⟨"text", (.object "java/lang/String"), 18, 2, 0⟩, ⟨"children", (.object "java/util/List"), 18, 3, 0⟩, ⟨"document", (.object "java/lang/String"), 18, 4, 0⟩, ⟨"line", .int, 18, 5, 0⟩, ⟨"DESCRIPTION", (.object "java/lang/String"), 26, 0, 0⟩, ⟨"SCHEMA_LOCATIONS", (.object "java/util/Set"), 26, 1, 0⟩]
  methods := #[k3m0, k3m1, k3m2]
  instanceTypes := #[(.object "java/lang/String"), (.object "java/util/Map"), (.object "java/lang/String"), (.object "java/util/List"), (.object "java/lang/String"), .int]
  staticTypes := #[(.object "java/lang/String"), (.object "java/util/Set")]
  resolved := Array.replicate 380 none
  statics := none }

def pool4 : Array CpInfo := pool [(1, .class_ 2), (0, u "java/io/Serializable"), (0, .class_ 4), (0, u "java/lang/Object")] 2

def k4 : Class := { plain "java/io/Serializable" (some 0) with
  accessFlags := 1537
  interfaces := #[]
  cf := some (fileOf pool4 1 #[] #[] 1537 3 #[] #[])
  fields := #[]
  methods := #[]
  instanceTypes := #[]
  staticTypes := #[]
  resolved := Array.replicate 7 none
  statics := none }

def pool5 : Array CpInfo := pool [(1, .class_ 2), (0, u "java/lang/Comparable"), (0, .class_ 4), (0, u "java/lang/Object")] 7

def k5 : Class := { plain "java/lang/Comparable" (some 0) with
  accessFlags := 1537
  interfaces := #[]
  cf := some (fileOf pool5 1 #[] #[] 1537 3 #[] #[])
  fields := #[]
  methods := #[]
  instanceTypes := #[]
  staticTypes := #[]
  resolved := Array.replicate 12 none
  statics := none }

def pool6 : Array CpInfo := pool [(2, .class_ 4), (1, u "java/lang/CharSequence"), (42, .class_ 48), (0, u "java/lang/CharSequence$1CodePointIterator"), (10, .class_ 60), (0, u "java/lang/CharSequence$1CharIterator"), (5, .class_ 67), (0, u "java/lang/Object")] 63

def k6 : Class := { plain "java/lang/CharSequence" (some 0) with
  accessFlags := 1537
  interfaces := #[]
  cf := some (fileOf pool6 2 #[.nestMembers #[47, 59]] #[] 1537 66 #[] #[])
  fields := #[]
  methods := #[]
  instanceTypes := #[]
  staticTypes := #[]
  resolved := Array.replicate 131 none
  statics := none }

def pool7 : Array CpInfo := pool [(1, .class_ 2), (0, u "java/lang/constant/Constable"), (0, .class_ 4), (0, u "java/lang/Object")] 6

def k7 : Class := { plain "java/lang/constant/Constable" (some 0) with
  accessFlags := 1537
  interfaces := #[]
  cf := some (fileOf pool7 1 #[] #[] 1537 3 #[] #[])
  fields := #[]
  methods := #[]
  instanceTypes := #[]
  staticTypes := #[]
  resolved := Array.replicate 11 none
  statics := none }

def pool8 : Array CpInfo := pool [(1, .class_ 2), (0, u "java/lang/constant/ConstantDesc"), (0, .class_ 4), (0, u "java/lang/Object")] 32

def k8 : Class := { plain "java/lang/constant/ConstantDesc" (some 0) with
  accessFlags := 1537
  interfaces := #[]
  cf := some (fileOf pool8 1 #[] #[] 1537 3 #[] #[])
  fields := #[]
  methods := #[]
  instanceTypes := #[]
  staticTypes := #[]
  resolved := Array.replicate 37 none
  statics := none }

def pool9 : Array CpInfo := pool [(1, .methodref 2 3), (0, .class_ 4), (0, .nameAndType 5 6), (0, u "java/lang/Object"), (0, u "<init>"), (0, u "()V"), (2, .fieldref 10 11), (0, .class_ 12), (0, .nameAndType 13 14), (0, u "java/lang/String"), (0, u "value"), (0, u "[B"), (0, .fieldref 10 16), (0, .nameAndType 17 18), (0, u "coder"), (0, u "B"), (2, u "hash"), (0, u "I"), (2, u "hashIsZero"), (0, u "Z"), (0, .methodref 10 28), (0, .nameAndType 5 29), (0, u "([CIILjava/lang/Void;)V"), (6, u "checkBoundsOffCount"), (0, u "(III)I"), (0, .fieldref 10 39), (0, .nameAndType 40 26), (0, u "COMPACT_STRINGS"), (1, .class_ 44), (1, u "java/lang/StringUTF16"), (0, u "compress"), (1, .methodref 42 48), (0, .nameAndType 49 50), (0, u "coderFromArrayLen"), (0, u "([BI)B"), (2, u "toBytes"), (0, .methodref 55 56), (0, .class_ 57), (0, .nameAndType 58 59), (0, u "java/util/Arrays"), (0, u "copyOfRange"), (0, u "([BII)[B"), (46, .methodref 107 108), (0, .class_ 109), (0, .nameAndType 110 111), (0, u "java/lang/StringLatin1"), (0, u "inflate"), (0, u "([BI[BII)V"), (30, u "()Z"), (34, .methodref 42 178), (0, .nameAndType 45 179), (0, u "([CII)[B"), (13, .class_ 195), (1, u "java/lang/System"), (13, .methodref 10 210), (0, .nameAndType 5 211), (0, u "([BB)V"), (0, .methodref 193 213), (0, .nameAndType 214 215), (0, u "arraycopy"), (0, u "(Ljava/lang/Object;ILjava/lang/Object;II)V"), (118, u "()I"), (0, .methodref 10 336), (0, .nameAndType 17 337), (0, u "()B"), (2, u "()[B"), (28, u "(C)Z"), (119, .methodref 10 490), (0, .nameAndType 5 491), (0, u "(Ljava/lang/AbstractStringBuilder;Ljava/lang/Void;)V"), (1, .nameAndType 494 142), (0, u "isLatin1"), (11, .nameAndType 507 334), (0, u "length"), (24, u "getBytes"), (8, .methodref 107 542), (0, .nameAndType 543 544), (0, u "equals"), (0, u "([B[B)Z"), (4, .methodref 550 506), (0, .class_ 551), (0, u "java/lang/AbstractStringBuilder"), (0, .methodref 550 553), (0, .nameAndType 554 340), (0, u "getValue"), (18, u "(Ljava/lang/Object;)Z"), (1, .class_ 576), (0, u "java/lang/CharSequence"), (22, u "CASE_INSENSITIVE_ORDER"), (0, u "Ljava/util/Comparator;"), (181, u "valueOf"), (0, u "(C)Ljava/lang/String;"), (37, u "([BIB)V"), (188, u "([C)V"), (4, .methodref 107 1016), (0, .nameAndType 1017 369), (0, u "canEncode"), (0, .methodref 107 1019), (0, .nameAndType 53 1020), (0, u "(C)[B"), (0, .methodref 42 1019), (25, .methodref 550 493), (0, .fieldref 550 1049), (0, .nameAndType 1050 26), (0, u "maybeLatin1"), (2, .fieldref 1054 1055), (0, .class_ 1056), (0, .nameAndType 1057 1058), (0, u "jdk/internal/util/Preconditions"), (0, u "SIOOBE_FORMATTER"), (0, u "Ljava/util/function/BiFunction;"), (5, u "(IIILjava/util/function/BiFunction;)I"), (0, .methodref 1054 1066), (0, .nameAndType 1067 1064), (0, u "checkFromIndexSize"), (33, u "serialPersistentFields"), (0, u "[Ljava/io/ObjectStreamField;"), (0, .class_ 1104), (0, u "java/lang/String$CaseInsensitiveComparator"), (1, .class_ 1107), (0, u "java/io/Serializable"), (0, .class_ 1109), (0, u "java/lang/Comparable"), (0, .class_ 1111), (0, u "java/lang/constant/Constable"), (0, .class_ 1113), (0, u "java/lang/constant/ConstantDesc"), (2, u "serialVersionUID"), (0, u "J"), (3, u "REPL"), (0, u "C"), (2, u "LATIN1"), (1, u "UTF16"), (105, u "(Ljava/lang/StringBuilder;)V")] 217

def k9m0 : Method := ⟨"<init>", "()V", ⟨[], none⟩, 1, none⟩
def k9c1 : Code := { maxStack := 5, maxLocals := 2, code := jdk_42_method_3_code, exceptionTable := #[], attributes := #[] }
def k9m1 : Method := ⟨"<init>", "([C)V", ⟨[(.array .char)], none⟩, 1, some k9c1⟩
def k9c2 : Code := { maxStack := 3, maxLocals := 2, code := jdk_42_method_53_code, exceptionTable := #[], attributes := #[] }
def k9m2 : Method := ⟨"<init>", "(Ljava/lang/StringBuilder;)V", ⟨[(.object "java/lang/StringBuilder")], none⟩, 1, some k9c2⟩
def k9c3 : Code := { maxStack := 2, maxLocals := 1, code := jdk_42_method_54_code, exceptionTable := #[], attributes := #[] }
def k9m3 : Method := ⟨"length", "()I", ⟨[], some .int⟩, 1, some k9c3⟩
def k9c4 : Code := { maxStack := 2, maxLocals := 3, code := jdk_42_method_66_code, exceptionTable := #[], attributes := #[] }
def k9m4 : Method := ⟨"equals", "(Ljava/lang/Object;)Z", ⟨[(.object "java/lang/Object")], some .boolean⟩, 1, some k9c4⟩
def k9c5 : Code := { maxStack := 4, maxLocals := 1, code := jdk_42_method_139_code, exceptionTable := #[], attributes := #[] }
def k9m5 : Method := ⟨"valueOf", "(C)Ljava/lang/String;", ⟨[.char], some (.object "java/lang/String")⟩, 9, some k9c5⟩
def k9c6 : Code := { maxStack := 5, maxLocals := 4, code := jdk_42_method_147_code, exceptionTable := #[], attributes := #[] }
def k9m6 : Method := ⟨"getBytes", "([BIB)V", ⟨[(.array .byte), .int, .byte], none⟩, 0, some k9c6⟩
def k9c7 : Code := { maxStack := 4, maxLocals := 6, code := jdk_42_method_149_code, exceptionTable := #[], attributes := #[] }
def k9m7 : Method := ⟨"<init>", "([CIILjava/lang/Void;)V", ⟨[(.array .char), .int, .int, (.object "java/lang/Void")], none⟩, 2, some k9c7⟩
def k9c8 : Code := { maxStack := 5, maxLocals := 5, code := jdk_42_method_150_code, exceptionTable := #[], attributes := #[] }
def k9m8 : Method := ⟨"<init>", "(Ljava/lang/AbstractStringBuilder;Ljava/lang/Void;)V", ⟨[(.object "java/lang/AbstractStringBuilder"), (.object "java/lang/Void")], none⟩, 0, some k9c8⟩
def k9c9 : Code := { maxStack := 2, maxLocals := 3, code := jdk_42_method_151_code, exceptionTable := #[], attributes := #[] }
def k9m9 : Method := ⟨"<init>", "([BB)V", ⟨[(.array .byte), .byte], none⟩, 0, some k9c9⟩
def k9c10 : Code := { maxStack := 1, maxLocals := 1, code := jdk_42_method_152_code, exceptionTable := #[], attributes := #[] }
def k9m10 : Method := ⟨"coder", "()B", ⟨[], some .byte⟩, 0, some k9c10⟩
def k9c11 : Code := { maxStack := 4, maxLocals := 3, code := jdk_42_method_157_code, exceptionTable := #[], attributes := #[] }
def k9m11 : Method := ⟨"checkBoundsOffCount", "(III)I", ⟨[.int, .int, .int], some .int⟩, 8, some k9c11⟩
def k9 : Class := { plain "java/lang/String" (some 0) with
  accessFlags := 49
  interfaces := #[4, 5, 6, 7, 8]
  cf := some (fileOf pool9 10 #[.nestMembers #[1103]] #[⟨1, 5, 6, #[]⟩, ⟨1, 5, 1010, #[]⟩, ⟨1, 5, 1233, #[]⟩, ⟨1, 507, 334, #[]⟩, ⟨1, 543, 573, #[]⟩, ⟨9, 782, 783, #[]⟩, ⟨0, 532, 821, #[]⟩, ⟨2, 5, 29, #[]⟩, ⟨0, 5, 491, #[]⟩, ⟨0, 5, 211, #[]⟩, ⟨0, 17, 337, #[]⟩, ⟨8, 36, 37, #[]⟩] 49 2 #[1106, 1108, 575, 1110, 1112] #[⟨18, 13, 14, #[]⟩, ⟨18, 17, 18, #[]⟩, ⟨2, 21, 22, #[]⟩, ⟨2, 25, 26, #[]⟩, ⟨26, 1116, 1117, #[]⟩, ⟨24, 40, 26, #[]⟩, ⟨26, 1101, 1102, #[]⟩, ⟨26, 1121, 1122, #[]⟩, ⟨25, 599, 600, #[]⟩, ⟨24, 1125, 18, #[]⟩, ⟨24, 1127, 18, #[]⟩])
  fields := #[⟨"value", (.array .byte), 18, 0, 0⟩, ⟨"coder", .byte, 18, 1, 0⟩, ⟨"hash", .int, 2, 2, 0⟩, ⟨"hashIsZero", .boolean, 2, 3, 0⟩, ⟨"serialVersionUID", .long, 26, 0, 0⟩, ⟨"COMPACT_STRINGS", .boolean, 24, 1, 0⟩, ⟨"serialPersistentFields", (.array (.object "java/io/ObjectStreamField")), 26, 2, 0⟩, ⟨"REPL", .char, 26, 3, 0⟩, ⟨"CASE_INSENSITIVE_ORDER", (.object "java/util/Comparator"), 25, 4, 0⟩, ⟨"LATIN1", .byte, 24, 5, 0⟩, ⟨"UTF16", .byte, 24, 6, 0⟩]
  methods := #[k9m0, k9m1, k9m2, k9m3, k9m4, k9m5, k9m6, k9m7, k9m8, k9m9, k9m10, k9m11]
  instanceTypes := #[(.array .byte), .byte, .int, .boolean]
  staticTypes := #[.long, .boolean, (.array (.object "java/io/ObjectStreamField")), .char, (.object "java/util/Comparator"), .byte, .byte]
  resolved := Array.replicate 1451 none
  statics := some 0 }

def pool10 : Array CpInfo := pool [(4, .class_ 6), (1, u "java/lang/Object"), (0, u "<init>"), (0, u "()V"), (5, .class_ 16), (1, u "java/lang/StringLatin1"), (0, u "inflate"), (2, .class_ 22), (1, u "java/lang/StringUTF16"), (3, .nameAndType 17 27), (0, u "([BI[BII)V"), (62, u "canEncode"), (14, u "(C)Z"), (15, u "$assertionsDisabled"), (0, u "Z"), (98, .class_ 223), (1, u "java/lang/StringLatin1$LinesSpliterator"), (16, .methodref 20 26), (40, u "equals"), (0, u "([B[B)Z"), (97, u "toBytes"), (1, u "(C)[B"), (7, .class_ 391), (0, u "java/lang/StringLatin1$CharsSpliterator")] 3

def k10m0 : Method := ⟨"<init>", "()V", ⟨[], none⟩, 0, none⟩
def k10c1 : Code := { maxStack := 2, maxLocals := 1, code := jdk_43_method_3_code, exceptionTable := #[], attributes := #[] }
def k10m1 : Method := ⟨"canEncode", "(C)Z", ⟨[.char], some .boolean⟩, 9, some k10c1⟩
def k10c2 : Code := { maxStack := 3, maxLocals := 3, code := jdk_43_method_13_code, exceptionTable := #[], attributes := #[] }
def k10m2 : Method := ⟨"equals", "([B[B)Z", ⟨[(.array .byte), (.array .byte)], some .boolean⟩, 9, some k10c2⟩
def k10c3 : Code := { maxStack := 4, maxLocals := 1, code := jdk_43_method_46_code, exceptionTable := #[], attributes := #[] }
def k10m3 : Method := ⟨"toBytes", "(C)[B", ⟨[.char], some (.array .byte)⟩, 9, some k10c3⟩
def k10c4 : Code := { maxStack := 5, maxLocals := 5, code := jdk_43_method_50_code, exceptionTable := #[], attributes := #[] }
def k10m4 : Method := ⟨"inflate", "([BI[BII)V", ⟨[(.array .byte), .int, (.array .byte), .int, .int], none⟩, 9, some k10c4⟩
def k10 : Class := { plain "java/lang/StringLatin1" (some 0) with
  accessFlags := 48
  interfaces := #[]
  cf := some (fileOf pool10 14 #[.nestMembers #[390, 221]] #[⟨0, 7, 8, #[]⟩, ⟨9, 90, 105, #[]⟩, ⟨9, 281, 282, #[]⟩, ⟨9, 380, 382, #[]⟩, ⟨9, 17, 27, #[]⟩] 48 4 #[] #[⟨4120, 121, 122, #[]⟩])
  fields := #[⟨"$assertionsDisabled", .boolean, 4120, 0, 0⟩]
  methods := #[k10m0, k10m1, k10m2, k10m3, k10m4]
  instanceTypes := #[]
  staticTypes := #[.boolean]
  resolved := Array.replicate 395 none
  statics := none }

def pool11 : Array CpInfo := pool [(1, .class_ 2), (0, u "java/lang/Appendable"), (0, .class_ 4), (0, u "java/lang/Object")] 9

def k11 : Class := { plain "java/lang/Appendable" (some 0) with
  accessFlags := 1537
  interfaces := #[]
  cf := some (fileOf pool11 1 #[] #[] 1537 3 #[] #[])
  fields := #[]
  methods := #[]
  instanceTypes := #[]
  staticTypes := #[]
  resolved := Array.replicate 14 none
  statics := none }

def pool12 : Array CpInfo := pool [(1, .class_ 2), (0, u "java/lang/String"), (0, .methodref 4 5), (0, .class_ 6), (0, .nameAndType 7 8), (0, u "java/lang/Object"), (0, u "<init>"), (0, u "()V"), (1, .class_ 12), (1, u "java/lang/AbstractStringBuilder"), (0, u "EMPTYVALUE"), (0, u "[B"), (0, .fieldref 10 16), (0, .nameAndType 17 14), (0, u "value"), (0, .fieldref 1 19), (0, .nameAndType 20 21), (0, u "COMPACT_STRINGS"), (0, u "Z"), (0, .fieldref 10 23), (0, .nameAndType 24 25), (0, u "coder"), (0, u "B"), (0, .methodref 27 28), (0, .class_ 29), (0, .nameAndType 30 31), (0, u "java/lang/StringUTF16"), (0, u "newBytesFor"), (0, u "(I)[B"), (0, .methodref 1 33), (0, .nameAndType 34 35), (0, u "length"), (0, u "()I"), (0, .class_ 37), (0, u "java/lang/Integer"), (1, .integer 2147483647), (0, .methodref 1 41), (0, .nameAndType 24 42), (0, u "()B"), (2, u "append"), (0, u "(Ljava/lang/String;)Ljava/lang/AbstractStringBuilder;"), (1, .class_ 49), (0, u "java/lang/CharSequence"), (19, u "(Ljava/lang/String;)V"), (5, u "maybeLatin1"), (3, .fieldref 10 80), (0, .nameAndType 81 82), (0, u "count"), (0, u "I"), (0, .methodref 10 84), (0, .nameAndType 85 86), (0, u "isLatin1"), (0, u "()Z"), (1, .class_ 90), (1, u "java/lang/StringLatin1"), (9, .methodref 10 101), (0, .nameAndType 102 103), (0, u "ensureCapacityInternal"), (0, u "(I)V"), (0, .methodref 10 105), (0, .nameAndType 106 107), (0, u "newCapacity"), (0, u "(I)I"), (0, .methodref 109 110), (0, .class_ 111), (0, .nameAndType 112 113), (0, u "java/util/Arrays"), (0, u "copyOf"), (0, u "([BI)[B"), (0, .methodref 115 116), (0, .class_ 117), (0, .nameAndType 118 119), (0, u "jdk/internal/util/ArraysSupport"), (0, u "newLength"), (0, u "(III)I"), (5, .methodref 88 126), (0, .nameAndType 127 128), (0, u "inflate"), (0, u "([BI[BII)V"), (59, u "getChars"), (6, .methodref 10 196), (0, .nameAndType 127 8), (11, .methodref 10 209), (0, .nameAndType 210 211), (0, u "putStringAt"), (0, u "(ILjava/lang/String;)V"), (5, u "inflateIfNeededFor"), (2, .nameAndType 221 222), (0, u "getBytes"), (0, u "([BIB)V"), (22, .methodref 36 246), (0, .nameAndType 247 107), (0, u "stringSize"), (0, .methodref 36 249), (0, .nameAndType 188 250), (0, u "(II[B)I"), (146, .methodref 10 398), (0, .nameAndType 217 69), (0, .methodref 1 220), (3, u "()[B"), (40, .class_ 445), (0, u "java/lang/Appendable"), (65, u "(I)Ljava/lang/AbstractStringBuilder;"), (40, u "getValue")] 56

def k12m0 : Method := ⟨"<init>", "()V", ⟨[], none⟩, 0, none⟩
def k12c1 : Code := { maxStack := 2, maxLocals := 2, code := jdk_68_method_2_code, exceptionTable := #[], attributes := #[] }
def k12m1 : Method := ⟨"<init>", "(I)V", ⟨[.int], none⟩, 0, some k12c1⟩
def k12c2 : Code := { maxStack := 1, maxLocals := 1, code := jdk_68_method_6_code, exceptionTable := #[], attributes := #[] }
def k12m2 : Method := ⟨"length", "()I", ⟨[], some .int⟩, 1, some k12c2⟩
def k12c3 : Code := { maxStack := 4, maxLocals := 3, code := jdk_68_method_9_code, exceptionTable := #[], attributes := #[] }
def k12m3 : Method := ⟨"ensureCapacityInternal", "(I)V", ⟨[.int], none⟩, 2, some k12c3⟩
def k12c4 : Code := { maxStack := 5, maxLocals := 6, code := jdk_68_method_10_code, exceptionTable := #[], attributes := #[] }
def k12m4 : Method := ⟨"newCapacity", "(I)I", ⟨[.int], some .int⟩, 2, some k12c4⟩
def k12c5 : Code := { maxStack := 5, maxLocals := 2, code := jdk_68_method_11_code, exceptionTable := #[], attributes := #[] }
def k12m5 : Method := ⟨"inflate", "()V", ⟨[], none⟩, 2, some k12c5⟩
def k12c6 : Code := { maxStack := 3, maxLocals := 3, code := jdk_68_method_22_code, exceptionTable := #[], attributes := #[] }
def k12m6 : Method := ⟨"append", "(Ljava/lang/String;)Ljava/lang/AbstractStringBuilder;", ⟨[(.object "java/lang/String")], some (.object "java/lang/AbstractStringBuilder")⟩, 1, some k12c6⟩
def k12c7 : Code := { maxStack := 4, maxLocals := 4, code := jdk_68_method_32_code, exceptionTable := #[], attributes := #[] }
def k12m7 : Method := ⟨"append", "(I)Ljava/lang/AbstractStringBuilder;", ⟨[.int], some (.object "java/lang/AbstractStringBuilder")⟩, 1, some k12c7⟩
def k12c8 : Code := { maxStack := 1, maxLocals := 1, code := jdk_68_method_64_code, exceptionTable := #[], attributes := #[] }
def k12m8 : Method := ⟨"getValue", "()[B", ⟨[], some (.array .byte)⟩, 16, some k12c8⟩
def k12c9 : Code := { maxStack := 1, maxLocals := 1, code := jdk_68_method_68_code, exceptionTable := #[], attributes := #[] }
def k12m9 : Method := ⟨"isLatin1", "()Z", ⟨[], some .boolean⟩, 16, some k12c9⟩
def k12c10 : Code := { maxStack := 2, maxLocals := 2, code := jdk_68_method_71_code, exceptionTable := #[], attributes := #[] }
def k12m10 : Method := ⟨"inflateIfNeededFor", "(Ljava/lang/String;)V", ⟨[(.object "java/lang/String")], none⟩, 2, some k12c10⟩
def k12c11 : Code := { maxStack := 4, maxLocals := 3, code := jdk_68_method_73_code, exceptionTable := #[], attributes := #[] }
def k12m11 : Method := ⟨"putStringAt", "(ILjava/lang/String;)V", ⟨[.int, (.object "java/lang/String")], none⟩, 2, some k12c11⟩
def k12 : Class := { plain "java/lang/AbstractStringBuilder" (some 0) with
  accessFlags := 1056
  interfaces := #[11, 6]
  cf := some (fileOf pool12 10 #[] #[⟨0, 7, 8, #[]⟩, ⟨0, 7, 103, #[]⟩, ⟨1, 34, 35, #[]⟩, ⟨2, 102, 103, #[]⟩, ⟨2, 106, 107, #[]⟩, ⟨2, 127, 8, #[]⟩, ⟨1, 45, 46, #[]⟩, ⟨1, 45, 511, #[]⟩, ⟨16, 552, 403, #[]⟩, ⟨16, 85, 86, #[]⟩, ⟨2, 217, 69, #[]⟩, ⟨2, 210, 211, #[]⟩] 1056 4 #[444, 48] #[⟨0, 17, 14, #[]⟩, ⟨0, 24, 25, #[]⟩, ⟨0, 75, 21, #[]⟩, ⟨0, 81, 82, #[]⟩, ⟨26, 13, 14, #[]⟩])
  fields := #[⟨"value", (.array .byte), 0, 0, 0⟩, ⟨"coder", .byte, 0, 1, 0⟩, ⟨"maybeLatin1", .boolean, 0, 2, 0⟩, ⟨"count", .int, 0, 3, 0⟩, ⟨"EMPTYVALUE", (.array .byte), 26, 0, 0⟩]
  methods := #[k12m0, k12m1, k12m2, k12m3, k12m4, k12m5, k12m6, k12m7, k12m8, k12m9, k12m10, k12m11]
  instanceTypes := #[(.array .byte), .byte, .boolean, .int]
  staticTypes := #[(.array .byte)]
  resolved := Array.replicate 609 none
  statics := none }

def pool13 : Array CpInfo := pool [(1, .methodref 2 3), (0, .class_ 4), (0, .nameAndType 5 6), (0, u "java/lang/AbstractStringBuilder"), (0, u "<init>"), (0, u "(I)V"), (11, .class_ 20), (1, u "java/lang/String"), (3, .class_ 26), (1, u "java/lang/StringBuilder"), (0, u "append"), (0, u "(Ljava/lang/String;)Ljava/lang/StringBuilder;"), (0, .methodref 2 30), (0, .nameAndType 27 31), (0, u "(Ljava/lang/String;)Ljava/lang/AbstractStringBuilder;"), (21, .methodref 2 54), (0, .nameAndType 27 55), (0, u "(I)Ljava/lang/AbstractStringBuilder;"), (81, .methodref 18 138), (0, .nameAndType 5 139), (0, u "(Ljava/lang/StringBuilder;)V"), (5, u "()V"), (10, u "()I"), (111, u "(I)Ljava/lang/StringBuilder;"), (74, .methodref 2 344), (0, .nameAndType 345 156), (0, u "length"), (3, .class_ 350), (0, u "java/lang/Appendable"), (0, .class_ 352), (0, u "java/io/Serializable"), (0, .class_ 354), (0, u "java/lang/Comparable"), (0, .class_ 356), (0, u "java/lang/CharSequence"), (0, u "serialVersionUID"), (0, u "J"), (40, u "toString"), (0, u "()Ljava/lang/String;")] 21

def k13c0 : Code := { maxStack := 2, maxLocals := 1, code := jdk_67_method_1_code, exceptionTable := #[], attributes := #[] }
def k13m0 : Method := ⟨"<init>", "()V", ⟨[], none⟩, 1, some k13c0⟩
def k13c1 : Code := { maxStack := 2, maxLocals := 2, code := jdk_67_method_7_code, exceptionTable := #[], attributes := #[] }
def k13m1 : Method := ⟨"append", "(Ljava/lang/String;)Ljava/lang/StringBuilder;", ⟨[(.object "java/lang/String")], some (.object "java/lang/StringBuilder")⟩, 1, some k13c1⟩
def k13c2 : Code := { maxStack := 2, maxLocals := 2, code := jdk_67_method_15_code, exceptionTable := #[], attributes := #[] }
def k13m2 : Method := ⟨"append", "(I)Ljava/lang/StringBuilder;", ⟨[.int], some (.object "java/lang/StringBuilder")⟩, 1, some k13c2⟩
def k13c3 : Code := { maxStack := 3, maxLocals := 1, code := jdk_67_method_42_code, exceptionTable := #[], attributes := #[] }
def k13m3 : Method := ⟨"toString", "()Ljava/lang/String;", ⟨[], some (.object "java/lang/String")⟩, 1, some k13c3⟩
def k13c4 : Code := { maxStack := 1, maxLocals := 1, code := jdk_67_method_93_code, exceptionTable := #[], attributes := #[] }
def k13m4 : Method := ⟨"length", "()I", ⟨[], some .int⟩, 4161, some k13c4⟩
def k13 : Class := { plain "java/lang/StringBuilder" (some 12) with
  accessFlags := 49
  interfaces := #[11, 4, 5, 6]
  cf := some (fileOf pool13 24 #[] #[⟨1, 5, 145, #[]⟩, ⟨1, 27, 28, #[]⟩, ⟨1, 27, 268, #[]⟩, ⟨1, 399, 400, #[]⟩, ⟨4161, 345, 156, #[]⟩] 49 2 #[349, 351, 353, 355] #[⟨24, 357, 358, #[]⟩])
  fields := #[⟨"serialVersionUID", .long, 24, 0, 0⟩]
  methods := #[k13m0, k13m1, k13m2, k13m3, k13m4]
  instanceTypes := #[(.array .byte), .byte, .boolean, .int]
  staticTypes := #[.long]
  resolved := Array.replicate 422 none
  statics := none }

def pool14 : Array CpInfo := pool [(2, .class_ 4), (1, u "java/lang/Object"), (0, u "<init>"), (0, u "()V"), (1, .class_ 10), (1, u "java/lang/System"), (0, u "allowSecurityManager"), (0, u "I"), (16, u "cons"), (0, u "Ljava/io/Console;"), (77, .class_ 110), (1, u "java/lang/System$CallersHolder"), (43, u "initialErrStream"), (0, u "Ljava/io/PrintStream;"), (19, u "security"), (0, u "Ljava/lang/SecurityManager;"), (31, .class_ 209), (0, u "java/lang/System$1"), (7, u "props"), (0, u "Ljava/util/Properties;"), (2, u "lineSeparator"), (0, u "Ljava/lang/String;"), (96, .class_ 321), (1, u "java/lang/System$LoggerFinder"), (5, .class_ 328), (0, u "java/lang/System$Logger"), (67, u "err"), (2, u "out"), (91, u "notSupportedJnuEncoding"), (15, u "in"), (17, u "initialIn"), (0, u "Ljava/io/InputStream;"), (35, u "bootLayer"), (0, u "Ljava/lang/ModuleLayer;"), (99, .class_ 664), (0, u "java/lang/System$2"), (9, u "NEVER"), (2, u "MAYBE"), (49, u "arraycopy"), (0, u "(Ljava/lang/Object;ILjava/lang/Object;II)V"), (72, .class_ 802), (0, u "java/lang/System$Logger$Level")] 31

def k14m0 : Method := ⟨"<init>", "()V", ⟨[], none⟩, 2, none⟩
def k14m1 : Method := ⟨"arraycopy", "(Ljava/lang/Object;ILjava/lang/Object;II)V", ⟨[(.object "java/lang/Object"), .int, (.object "java/lang/Object"), .int, .int], none⟩, 265, none⟩
def k14 : Class := { plain "java/lang/System" (some 0) with
  accessFlags := 49
  interfaces := #[]
  cf := some (fileOf pool14 8 #[.nestMembers #[319, 327, 801, 108, 663, 208]] #[⟨2, 5, 6, #[]⟩, ⟨265, 727, 728, #[]⟩] 49 2 #[] #[⟨25, 507, 526, #[]⟩, ⟨25, 399, 155, #[]⟩, ⟨25, 396, 155, #[]⟩, ⟨10, 525, 526, #[]⟩, ⟨26, 674, 12, #[]⟩, ⟨26, 677, 12, #[]⟩, ⟨10, 11, 12, #[]⟩, ⟨74, 175, 176, #[]⟩, ⟨10, 491, 222, #[]⟩, ⟨74, 29, 30, #[]⟩, ⟨74, 154, 155, #[]⟩, ⟨10, 217, 218, #[]⟩, ⟨10, 221, 222, #[]⟩, ⟨8, 562, 563, #[]⟩])
  fields := #[⟨"in", (.object "java/io/InputStream"), 25, 0, 0⟩, ⟨"out", (.object "java/io/PrintStream"), 25, 1, 0⟩, ⟨"err", (.object "java/io/PrintStream"), 25, 2, 0⟩, ⟨"initialIn", (.object "java/io/InputStream"), 10, 3, 0⟩, ⟨"NEVER", .int, 26, 4, 0⟩, ⟨"MAYBE", .int, 26, 5, 0⟩, ⟨"allowSecurityManager", .int, 10, 6, 0⟩, ⟨"security", (.object "java/lang/SecurityManager"), 74, 7, 0⟩, ⟨"notSupportedJnuEncoding", (.object "java/lang/String"), 10, 8, 0⟩, ⟨"cons", (.object "java/io/Console"), 74, 9, 0⟩, ⟨"initialErrStream", (.object "java/io/PrintStream"), 74, 10, 0⟩, ⟨"props", (.object "java/util/Properties"), 10, 11, 0⟩, ⟨"lineSeparator", (.object "java/lang/String"), 10, 12, 0⟩, ⟨"bootLayer", (.object "java/lang/ModuleLayer"), 8, 13, 0⟩]
  methods := #[k14m0, k14m1]
  instanceTypes := #[]
  staticTypes := #[(.object "java/io/InputStream"), (.object "java/io/PrintStream"), (.object "java/io/PrintStream"), (.object "java/io/InputStream"), .int, .int, .int, (.object "java/lang/SecurityManager"), (.object "java/lang/String"), (.object "java/io/Console"), (.object "java/io/PrintStream"), (.object "java/util/Properties"), (.object "java/lang/String"), (.object "java/lang/ModuleLayer")]
  resolved := Array.replicate 834 none
  statics := none }

def pool15 : Array CpInfo := pool [(9, u "<init>"), (6, .class_ 18), (1, u "java/lang/Object"), (0, u "()V"), (1, .class_ 23), (1, u "jdk/internal/util/ArraysSupport"), (0, u "LOG2_ARRAY_LONG_INDEX_SCALE"), (0, u "I"), (2, u "U"), (0, u "Ljdk/internal/misc/Unsafe;"), (8, u "BIG_ENDIAN"), (0, u "Z"), (8, u "LOG2_BYTE_BIT_SIZE"), (4, u "LOG2_ARRAY_INT_INDEX_SCALE"), (54, u "JLA"), (0, u "Ljdk/internal/access/JavaLangAccess;"), (11, u "LOG2_ARRAY_BOOLEAN_INDEX_SCALE"), (9, u "LOG2_ARRAY_BYTE_INDEX_SCALE"), (5, u "LOG2_ARRAY_CHAR_INDEX_SCALE"), (5, u "LOG2_ARRAY_SHORT_INDEX_SCALE"), (18, u "LOG2_ARRAY_FLOAT_INDEX_SCALE"), (24, u "LOG2_ARRAY_DOUBLE_INDEX_SCALE"), (6, .methodref 195 196), (0, .class_ 197), (0, .nameAndType 198 199), (0, u "java/lang/Math"), (0, u "max"), (0, u "(II)I"), (0, .integer 2147483639), (76, u "T_BOOLEAN"), (2, u "T_CHAR"), (1, u "T_FLOAT"), (1, u "T_DOUBLE"), (1, u "T_BYTE"), (1, u "T_SHORT"), (1, u "T_INT"), (1, u "T_LONG"), (1, u "SOFT_MAX_ARRAY_LENGTH"), (56, u "newLength"), (0, u "(III)I")] 25

def k15m0 : Method := ⟨"<init>", "()V", ⟨[], none⟩, 2, none⟩
def k15c1 : Code := { maxStack := 3, maxLocals := 4, code := jdk_48_method_27_code, exceptionTable := #[], attributes := #[] }
def k15m1 : Method := ⟨"newLength", "(III)I", ⟨[.int, .int, .int], some .int⟩, 9, some k15c1⟩
def k15 : Class := { plain "jdk/internal/util/ArraysSupport" (some 0) with
  accessFlags := 33
  interfaces := #[]
  cf := some (fileOf pool15 21 #[] #[⟨2, 9, 19, #[]⟩, ⟨9, 351, 352, #[]⟩] 33 16 #[] #[⟨24, 28, 29, #[]⟩, ⟨26, 38, 39, #[]⟩, ⟨25, 121, 25, #[]⟩, ⟨25, 131, 25, #[]⟩, ⟨25, 137, 25, #[]⟩, ⟨25, 143, 25, #[]⟩, ⟨25, 53, 25, #[]⟩, ⟨25, 24, 25, #[]⟩, ⟨25, 162, 25, #[]⟩, ⟨25, 187, 25, #[]⟩, ⟨26, 48, 25, #[]⟩, ⟨25, 277, 25, #[]⟩, ⟨25, 280, 25, #[]⟩, ⟨25, 282, 25, #[]⟩, ⟨25, 284, 25, #[]⟩, ⟨25, 286, 25, #[]⟩, ⟨25, 288, 25, #[]⟩, ⟨25, 290, 25, #[]⟩, ⟨25, 292, 25, #[]⟩, ⟨26, 108, 109, #[]⟩, ⟨25, 294, 25, #[]⟩])
  fields := #[⟨"U", (.object "jdk/internal/misc/Unsafe"), 24, 0, 0⟩, ⟨"BIG_ENDIAN", .boolean, 26, 1, 0⟩, ⟨"LOG2_ARRAY_BOOLEAN_INDEX_SCALE", .int, 25, 2, 0⟩, ⟨"LOG2_ARRAY_BYTE_INDEX_SCALE", .int, 25, 3, 0⟩, ⟨"LOG2_ARRAY_CHAR_INDEX_SCALE", .int, 25, 4, 0⟩, ⟨"LOG2_ARRAY_SHORT_INDEX_SCALE", .int, 25, 5, 0⟩, ⟨"LOG2_ARRAY_INT_INDEX_SCALE", .int, 25, 6, 0⟩, ⟨"LOG2_ARRAY_LONG_INDEX_SCALE", .int, 25, 7, 0⟩, ⟨"LOG2_ARRAY_FLOAT_INDEX_SCALE", .int, 25, 8, 0⟩, ⟨"LOG2_ARRAY_DOUBLE_INDEX_SCALE", .int, 25, 9, 0⟩, ⟨"LOG2_BYTE_BIT_SIZE", .int, 26, 10, 0⟩, ⟨"T_BOOLEAN", .int, 25, 11, 0⟩, ⟨"T_CHAR", .int, 25, 12, 0⟩, ⟨"T_FLOAT", .int, 25, 13, 0⟩, ⟨"T_DOUBLE", .int, 25, 14, 0⟩, ⟨"T_BYTE", .int, 25, 15, 0⟩, ⟨"T_SHORT", .int, 25, 16, 0⟩, ⟨"T_INT", .int, 25, 17, 0⟩, ⟨"T_LONG", .int, 25, 18, 0⟩, ⟨"JLA", (.object "jdk/internal/access/JavaLangAccess"), 26, 19, 0⟩, ⟨"SOFT_MAX_ARRAY_LENGTH", .int, 25, 20, 0⟩]
  methods := #[k15m0, k15m1]
  instanceTypes := #[]
  staticTypes := #[(.object "jdk/internal/misc/Unsafe"), .boolean, .int, .int, .int, .int, .int, .int, .int, .int, .int, .int, .int, .int, .int, .int, .int, .int, .int, (.object "jdk/internal/access/JavaLangAccess"), .int]
  resolved := Array.replicate 378 none
  statics := none }

def pool16 : Array CpInfo := pool [(1, .class_ 2), (0, u "java/lang/Math"), (1, .class_ 6), (1, u "java/lang/Object"), (0, u "<init>"), (0, u "()V"), (89, .class_ 100), (1, u "java/lang/Math$RandomNumberGeneratorHolder"), (71, u "negativeZeroFloatBits"), (0, u "J"), (2, u "negativeZeroDoubleBits"), (21, u "max"), (2, u "min"), (43, u "$assertionsDisabled"), (0, u "Z"), (88, u "(II)I"), (2, u "twoToTheDoubleScaleDown"), (0, u "D"), (4, u "twoToTheDoubleScaleUp"), (9, u "E"), (3, u "PI"), (2, u "TAU"), (2, u "DEGREES_TO_RADIANS"), (0, u "RADIANS_TO_DEGREES")] 94

def k16m0 : Method := ⟨"<init>", "()V", ⟨[], none⟩, 2, none⟩
def k16c1 : Code := { maxStack := 2, maxLocals := 2, code := jdk_29_method_65_code, exceptionTable := #[], attributes := #[] }
def k16m1 : Method := ⟨"max", "(II)I", ⟨[.int, .int], some .int⟩, 9, some k16c1⟩
def k16c2 : Code := { maxStack := 2, maxLocals := 2, code := jdk_29_method_69_code, exceptionTable := #[], attributes := #[] }
def k16m2 : Method := ⟨"min", "(II)I", ⟨[.int, .int], some .int⟩, 9, some k16c2⟩
def k16 : Class := { plain "java/lang/Math" (some 0) with
  accessFlags := 49
  interfaces := #[]
  cf := some (fileOf pool16 1 #[.nestMembers #[98]] #[⟨2, 7, 8, #[]⟩, ⟨9, 198, 335, #[]⟩, ⟨9, 201, 335, #[]⟩] 49 4 #[] #[⟨25, 354, 339, #[]⟩, ⟨25, 358, 339, #[]⟩, ⟨25, 361, 339, #[]⟩, ⟨26, 364, 339, #[]⟩, ⟨26, 365, 339, #[]⟩, ⟨26, 172, 173, #[]⟩, ⟨26, 176, 173, #[]⟩, ⟨8, 344, 339, #[]⟩, ⟨8, 338, 339, #[]⟩, ⟨4120, 245, 246, #[]⟩])
  fields := #[⟨"E", .double, 25, 0, 0⟩, ⟨"PI", .double, 25, 1, 0⟩, ⟨"TAU", .double, 25, 2, 0⟩, ⟨"DEGREES_TO_RADIANS", .double, 26, 3, 0⟩, ⟨"RADIANS_TO_DEGREES", .double, 26, 4, 0⟩, ⟨"negativeZeroFloatBits", .long, 26, 5, 0⟩, ⟨"negativeZeroDoubleBits", .long, 26, 6, 0⟩, ⟨"twoToTheDoubleScaleUp", .double, 8, 7, 0⟩, ⟨"twoToTheDoubleScaleDown", .double, 8, 8, 0⟩, ⟨"$assertionsDisabled", .boolean, 4120, 9, 0⟩]
  methods := #[k16m0, k16m1, k16m2]
  instanceTypes := #[]
  staticTypes := #[.double, .double, .double, .double, .double, .long, .long, .double, .double, .boolean]
  resolved := Array.replicate 460 none
  statics := none }

def pool17 : Array CpInfo := pool [(2, .class_ 4), (1, u "java/lang/Object"), (0, u "<init>"), (0, u "()V"), (7, .class_ 16), (1, u "java/util/Arrays"), (57, .class_ 76), (1, u "java/util/Arrays$NaturalOrder"), (32, u "()Ljava/lang/Object;"), (3, .class_ 115), (1, u "java/util/Arrays$LegacyMergeSort"), (1, u "Z"), (10, .nameAndType 129 109), (0, u "clone"), (9, u "copyOfRange"), (10, .methodref 151 152), (0, .class_ 153), (0, .nameAndType 154 155), (0, u "java/lang/System"), (0, u "arraycopy"), (0, u "(Ljava/lang/Object;ILjava/lang/Object;II)V"), (146, u "copyOf"), (1, .methodref 305 306), (0, .class_ 307), (0, .nameAndType 308 309), (0, u "java/lang/Math"), (0, u "min"), (0, u "(II)I"), (0, .methodref 311 128), (0, .class_ 312), (0, u "[B"), (26, .methodref 14 340), (0, .nameAndType 341 342), (0, u "copyOfRangeByte"), (0, u "([BII)[B"), (0, .methodref 14 344), (0, .nameAndType 345 346), (0, u "checkLength"), (0, u "(II)V"), (28, .class_ 376), (0, u "java/util/Arrays$ArrayList"), (68, u "$assertionsDisabled"), (269, u "MIN_ARRAY_SORT_GRAN"), (0, u "I"), (2, u "INSERTIONSORT_THRESHOLD"), (149, u "([BI)[B"), (105, .class_ 976), (0, u "java/util/Arrays$ArrayItr")] 52

def k17m0 : Method := ⟨"<init>", "()V", ⟨[], none⟩, 2, none⟩
def k17c1 : Code := { maxStack := 6, maxLocals := 3, code := jdk_65_method_121_code, exceptionTable := #[], attributes := #[] }
def k17m1 : Method := ⟨"copyOf", "([BI)[B", ⟨[(.array .byte), .int], some (.array .byte)⟩, 9, some k17c1⟩
def k17c2 : Code := { maxStack := 4, maxLocals := 2, code := jdk_65_method_131_code, exceptionTable := #[], attributes := #[] }
def k17m2 : Method := ⟨"checkLength", "(II)V", ⟨[.int, .int], none⟩, 10, some k17c2⟩
def k17c3 : Code := { maxStack := 3, maxLocals := 3, code := jdk_65_method_132_code, exceptionTable := #[], attributes := #[] }
def k17m3 : Method := ⟨"copyOfRange", "([BII)[B", ⟨[(.array .byte), .int, .int], some (.array .byte)⟩, 9, some k17c3⟩
def k17c4 : Code := { maxStack := 6, maxLocals := 5, code := jdk_65_method_133_code, exceptionTable := #[], attributes := #[] }
def k17m4 : Method := ⟨"copyOfRangeByte", "([BII)[B", ⟨[(.array .byte), .int, .int], some (.array .byte)⟩, 10, some k17c4⟩
def k17 : Class := { plain "java/util/Arrays" (some 0) with
  accessFlags := 49
  interfaces := #[]
  cf := some (fileOf pool17 14 #[.nestMembers #[975, 375, 113, 74]] #[⟨2, 5, 6, #[]⟩, ⟨9, 302, 869, #[]⟩, ⟨10, 345, 346, #[]⟩, ⟨9, 139, 342, #[]⟩, ⟨10, 341, 342, #[]⟩] 49 2 #[] #[⟨26, 715, 716, #[]⟩, ⟨26, 719, 716, #[]⟩, ⟨4120, 445, 117, #[]⟩])
  fields := #[⟨"MIN_ARRAY_SORT_GRAN", .int, 26, 0, 0⟩, ⟨"INSERTIONSORT_THRESHOLD", .int, 26, 1, 0⟩, ⟨"$assertionsDisabled", .boolean, 4120, 2, 0⟩]
  methods := #[k17m0, k17m1, k17m2, k17m3, k17m4]
  instanceTypes := #[]
  staticTypes := #[.int, .int, .boolean]
  resolved := Array.replicate 1029 none
  statics := none }

def pool18 : Array CpInfo := pool [(1, .methodref 2 3), (0, .class_ 4), (0, .nameAndType 5 6), (0, u "java/lang/Object"), (0, u "<init>"), (0, u "()V"), (0, .fieldref 8 9), (0, .class_ 10), (0, .nameAndType 11 12), (0, u "java/lang/Throwable"), (0, u "cause"), (0, u "Ljava/lang/Throwable;"), (0, .fieldref 8 14), (0, .nameAndType 15 16), (0, u "UNASSIGNED_STACK"), (0, u "[Ljava/lang/StackTraceElement;"), (0, .fieldref 8 18), (0, .nameAndType 19 16), (0, u "stackTrace"), (0, .fieldref 8 21), (0, .nameAndType 22 23), (0, u "SUPPRESSED_SENTINEL"), (0, u "Ljava/util/List;"), (0, .fieldref 8 25), (0, .nameAndType 26 23), (0, u "suppressedExceptions"), (0, .methodref 8 28), (0, .nameAndType 29 30), (0, u "fillInStackTrace"), (0, u "()Ljava/lang/Throwable;"), (0, .fieldref 8 32), (0, .nameAndType 33 34), (0, u "detailMessage"), (0, u "Ljava/lang/String;"), (3, u "()Ljava/lang/String;"), (2, u "getMessage"), (21, u "(Ljava/lang/String;Ljava/lang/Throwable;)V"), (29, .class_ 94), (0, u "java/lang/Throwable$WrappedPrintStream"), (6, .class_ 103), (1, u "java/lang/Throwable$PrintStreamOrWriter"), (54, u "getCause"), (6, u "$assertionsDisabled"), (0, u "Z"), (26, .class_ 194), (0, u "java/lang/Throwable$WrappedPrintWriter"), (3, .fieldref 8 199), (0, .nameAndType 200 201), (0, u "backtrace"), (0, u "Ljava/lang/Object;"), (0, .methodref 8 203), (0, .nameAndType 29 204), (0, u "(I)Ljava/lang/Throwable;"), (6, u "depth"), (0, u "I"), (56, .class_ 271), (1, u "java/lang/Throwable$SentinelHolder"), (32, u "EMPTY_THROWABLE_ARRAY"), (0, u "[Ljava/lang/Throwable;"), (12, .class_ 319), (0, u "java/io/Serializable"), (0, u "serialVersionUID"), (0, u "J"), (5, u "NULL_CAUSE_MESSAGE"), (0, u "SELF_SUPPRESSION_MESSAGE"), (0, u "CAUSE_CAPTION"), (0, u "SUPPRESSED_CAPTION")] 73

def k18c0 : Code := { maxStack := 2, maxLocals := 1, code := jdk_78_method_1_code, exceptionTable := #[], attributes := #[] }
def k18m0 : Method := ⟨"<init>", "()V", ⟨[], none⟩, 1, some k18c0⟩
def k18c1 : Code := { maxStack := 2, maxLocals := 3, code := jdk_78_method_3_code, exceptionTable := #[], attributes := #[] }
def k18m1 : Method := ⟨"<init>", "(Ljava/lang/String;Ljava/lang/Throwable;)V", ⟨[(.object "java/lang/String"), (.object "java/lang/Throwable")], none⟩, 1, some k18c1⟩
def k18c2 : Code := { maxStack := 1, maxLocals := 1, code := jdk_78_method_6_code, exceptionTable := #[], attributes := #[] }
def k18m2 : Method := ⟨"getMessage", "()Ljava/lang/String;", ⟨[], some (.object "java/lang/String")⟩, 1, some k18c2⟩
def k18c3 : Code := { maxStack := 2, maxLocals := 1, code := ⟨#[0x2a, 0xb4, 0x00, 0x07, 0x2a, 0xa6, 0x00, 0x07, 0x01, 0xa7, 0x00, 0x07, 0x2a, 0xb4, 0x00, 0x07, 0xb0]⟩, exceptionTable := #[], attributes := #[] }
def k18m3 : Method := ⟨"getCause", "()Ljava/lang/Throwable;", ⟨[], some (.object "java/lang/Throwable")⟩, 33, some k18c3⟩
def k18c4 : Code := { maxStack := 2, maxLocals := 1, code := ⟨#[0x2a, 0xb4, 0x00, 0x11, 0xc7, 0x00, 0x0a, 0x2a, 0xb4, 0x00, 0xc6, 0xc6, 0x00, 0x10, 0x2a, 0x03, 0xb6, 0x00, 0xca, 0x57, 0x2a, 0xb2, 0x00, 0x0d, 0xb5, 0x00, 0x11, 0x2a, 0xb0]⟩, exceptionTable := #[], attributes := #[] }
def k18m4 : Method := ⟨"fillInStackTrace", "()Ljava/lang/Throwable;", ⟨[], some (.object "java/lang/Throwable")⟩, 33, some k18c4⟩
def k18m5 : Method := ⟨"fillInStackTrace", "(I)Ljava/lang/Throwable;", ⟨[.int], some (.object "java/lang/Throwable")⟩, 258, none⟩
def k18 : Class := { plain "java/lang/Throwable" (some 0) with
  accessFlags := 33
  interfaces := #[4]
  cf := some (fileOf pool18 8 #[.nestMembers #[193, 93, 101, 269]] #[⟨1, 5, 6, #[]⟩, ⟨1, 5, 63, #[]⟩, ⟨1, 41, 38, #[]⟩, ⟨33, 158, 30, #[]⟩, ⟨33, 29, 30, #[]⟩, ⟨258, 29, 204, #[]⟩] 33 2 #[318] #[⟨26, 320, 321, #[]⟩, ⟨130, 200, 201, #[]⟩, ⟨2, 33, 34, #[]⟩, ⟨26, 15, 16, #[]⟩, ⟨2, 11, 12, #[]⟩, ⟨2, 19, 16, #[]⟩, ⟨130, 211, 212, #[]⟩, ⟨26, 22, 23, #[]⟩, ⟨2, 26, 23, #[]⟩, ⟨26, 327, 34, #[]⟩, ⟨26, 328, 34, #[]⟩, ⟨26, 329, 34, #[]⟩, ⟨26, 330, 34, #[]⟩, ⟨26, 304, 305, #[]⟩, ⟨4120, 165, 166, #[]⟩])
  fields := #[⟨"serialVersionUID", .long, 26, 0, 0⟩, ⟨"backtrace", (.object "java/lang/Object"), 130, 0, 0⟩, ⟨"detailMessage", (.object "java/lang/String"), 2, 1, 0⟩, ⟨"UNASSIGNED_STACK", (.array (.object "java/lang/StackTraceElement")), 26, 1, 0⟩, ⟨"cause", (.object "java/lang/Throwable"), 2, 2, 0⟩, ⟨"stackTrace", (.array (.object "java/lang/StackTraceElement")), 2, 3, 0⟩, ⟨"depth", .int, 130, 4, 0⟩, ⟨"SUPPRESSED_SENTINEL", (.object "java/util/List"), 26, 2, 0⟩, ⟨"suppressedExceptions", (.object "java/util/List"), 2, 5, 0⟩, ⟨"NULL_CAUSE_MESSAGE", (.object "java/lang/String"), 26, 3, 0⟩, ⟨"SELF_SUPPRESSION_MESSAGE", (.object "java/lang/String"), 26, 4, 0⟩, ⟨"CAUSE_CAPTION", (.object "java/lang/String"), 26, 5, 0⟩, ⟨"SUPPRESSED_CAPTION", (.object "java/lang/String"), 26, 6, 0⟩, ⟨"EMPTY_THROWABLE_ARRAY", (.array (.object "java/lang/Throwable")), 26, 7, 0⟩, ⟨"$assertionsDisabled", .boolean, 4120, 8, 0⟩]
  methods := #[k18m0, k18m1, k18m2, k18m3, k18m4, k18m5]
  instanceTypes := #[(.object "java/lang/Object"), (.object "java/lang/String"), (.object "java/lang/Throwable"), (.array (.object "java/lang/StackTraceElement")), .int, (.object "java/util/List")]
  staticTypes := #[.long, (.array (.object "java/lang/StackTraceElement")), (.object "java/util/List"), (.object "java/lang/String"), (.object "java/lang/String"), (.object "java/lang/String"), (.object "java/lang/String"), (.array (.object "java/lang/Throwable")), .boolean]
  resolved := Array.replicate 404 none
  statics := some 1 }

def pool19 : Array CpInfo := pool [(2, .class_ 4), (1, u "java/lang/Throwable"), (0, u "<init>"), (0, u "()V"), (3, .methodref 2 11), (0, .nameAndType 5 12), (0, u "(Ljava/lang/String;Ljava/lang/Throwable;)V"), (6, .class_ 20), (0, u "java/lang/Exception"), (0, u "serialVersionUID"), (0, u "J")] 17

def k19m0 : Method := ⟨"<init>", "()V", ⟨[], none⟩, 1, none⟩
def k19c1 : Code := { maxStack := 3, maxLocals := 3, code := jdk_59_method_3_code, exceptionTable := #[], attributes := #[] }
def k19m1 : Method := ⟨"<init>", "(Ljava/lang/String;Ljava/lang/Throwable;)V", ⟨[(.object "java/lang/String"), (.object "java/lang/Throwable")], none⟩, 1, some k19c1⟩
def k19 : Class := { plain "java/lang/Exception" (some 18) with
  accessFlags := 33
  interfaces := #[]
  cf := some (fileOf pool19 19 #[] #[⟨1, 5, 6, #[]⟩, ⟨1, 5, 12, #[]⟩] 33 2 #[] #[⟨24, 21, 22, #[]⟩])
  fields := #[⟨"serialVersionUID", .long, 24, 0, 0⟩]
  methods := #[k19m0, k19m1]
  instanceTypes := #[(.object "java/lang/Object"), (.object "java/lang/String"), (.object "java/lang/Throwable"), (.array (.object "java/lang/StackTraceElement")), .int, (.object "java/util/List")]
  staticTypes := #[.long]
  resolved := Array.replicate 40 none
  statics := none }

def pool20 : Array CpInfo := pool [(2, .class_ 4), (1, u "java/lang/Exception"), (0, u "<init>"), (0, u "()V"), (3, .methodref 2 11), (0, .nameAndType 5 12), (0, u "(Ljava/lang/String;Ljava/lang/Throwable;)V"), (6, .class_ 20), (0, u "java/lang/RuntimeException"), (0, u "serialVersionUID"), (0, u "J")] 17

def k20m0 : Method := ⟨"<init>", "()V", ⟨[], none⟩, 1, none⟩
def k20c1 : Code := { maxStack := 3, maxLocals := 3, code := jdk_58_method_3_code, exceptionTable := #[], attributes := #[] }
def k20m1 : Method := ⟨"<init>", "(Ljava/lang/String;Ljava/lang/Throwable;)V", ⟨[(.object "java/lang/String"), (.object "java/lang/Throwable")], none⟩, 1, some k20c1⟩
def k20 : Class := { plain "java/lang/RuntimeException" (some 19) with
  accessFlags := 33
  interfaces := #[]
  cf := some (fileOf pool20 19 #[] #[⟨1, 5, 6, #[]⟩, ⟨1, 5, 12, #[]⟩] 33 2 #[] #[⟨24, 21, 22, #[]⟩])
  fields := #[⟨"serialVersionUID", .long, 24, 0, 0⟩]
  methods := #[k20m0, k20m1]
  instanceTypes := #[(.object "java/lang/Object"), (.object "java/lang/String"), (.object "java/lang/Throwable"), (.array (.object "java/lang/StackTraceElement")), .int, (.object "java/util/List")]
  staticTypes := #[.long]
  resolved := Array.replicate 40 none
  statics := none }

def pool21 : Array CpInfo := pool [(1, .class_ 2), (0, u "java/lang/StringBuilder"), (0, .methodref 1 4), (0, .nameAndType 5 6), (0, u "<init>"), (0, u "()V"), (0, .string 8), (0, u "cannot read "), (0, .methodref 1 10), (0, .nameAndType 11 12), (0, u "append"), (0, u "(Ljava/lang/String;)Ljava/lang/StringBuilder;"), (0, .string 14), (0, u ""), (0, .string 16), (0, u ", line "), (0, .methodref 1 18), (0, .nameAndType 11 19), (0, u "(I)Ljava/lang/StringBuilder;"), (0, .methodref 1 21), (0, .nameAndType 22 23), (0, u "toString"), (0, u "()Ljava/lang/String;"), (0, .string 25), (0, u ": "), (0, .methodref 27 28), (0, .class_ 29), (0, .nameAndType 5 30), (0, u "java/lang/RuntimeException"), (0, u "(Ljava/lang/String;Ljava/lang/Throwable;)V"), (0, .class_ 32), (0, u "com/example/oyster/oyster/XmlDefinitionException"), (0, u "serialVersionUID"), (0, u "J"), (3, u "(Ljava/lang/String;ILjava/lang/String;Ljava/lang/Throwable;)V")] 9

def k21c0 : Code := { maxStack := 4, maxLocals := 5, code := prog_27_method_1_code, exceptionTable := #[], attributes := #[] }
def k21m0 : Method := ⟨"<init>", "(Ljava/lang/String;ILjava/lang/String;Ljava/lang/Throwable;)V", ⟨[(.object "java/lang/String"), .int, (.object "java/lang/String"), (.object "java/lang/Throwable")], none⟩, 0, some k21c0⟩
def k21 : Class := { plain "com/example/oyster/oyster/XmlDefinitionException" (some 20) with
  accessFlags := 33
  interfaces := #[]
  cf := some (fileOf pool21 31 #[] #[⟨0, 5, 38, #[]⟩] 33 27 #[] #[⟨26, 33, 34, #[]⟩])
  fields := #[⟨"serialVersionUID", .long, 26, 0, 0⟩]
  methods := #[k21m0]
  instanceTypes := #[(.object "java/lang/Object"), (.object "java/lang/String"), (.object "java/lang/Throwable"), (.array (.object "java/lang/StackTraceElement")), .int, (.object "java/util/List")]
  staticTypes := #[.long]
  resolved := Array.replicate 48 none
  statics := none }

def pool22 : Array CpInfo := pool [(1, .class_ 2), (0, u "java/lang/Cloneable"), (0, .class_ 4), (0, u "java/lang/Object")] 2

def k22 : Class := { plain "java/lang/Cloneable" (some 0) with
  accessFlags := 1537
  interfaces := #[]
  cf := some (fileOf pool22 1 #[] #[] 1537 3 #[] #[])
  fields := #[]
  methods := #[]
  instanceTypes := #[]
  staticTypes := #[]
  resolved := Array.replicate 7 none
  statics := none }

def pool23 : Array CpInfo := pool [(3, .class_ 4), (0, u "java/lang/String"), (1, .class_ 8), (1, u "java/lang/Object"), (0, u "<init>"), (0, u "()V"), (0, .methodref 12 13), (0, .class_ 14), (0, .nameAndType 15 16), (0, u "java/lang/StringUTF16"), (0, u "newBytesLength"), (0, u "(I)I"), (3, .integer 1073741823), (23, .fieldref 12 45), (0, .nameAndType 46 47), (0, u "$assertionsDisabled"), (0, u "Z"), (0, .methodref 12 49), (0, .nameAndType 50 51), (0, u "length"), (0, u "([B)I"), (7, .fieldref 12 60), (0, .nameAndType 61 62), (0, u "HI_BYTE_SHIFT"), (0, u "I"), (0, .fieldref 12 64), (0, .nameAndType 65 62), (0, u "LO_BYTE_SHIFT"), (5, .methodref 12 72), (0, .nameAndType 73 74), (0, u "getChar"), (0, u "([BI)C"), (24, u "(II[B)V"), (7, .methodref 12 108), (0, .nameAndType 109 110), (0, u "newBytesFor"), (0, u "(I)[B"), (0, .methodref 12 112), (0, .nameAndType 113 114), (0, u "putChar"), (0, u "([BII)V"), (0, .methodref 12 116), (0, .nameAndType 117 118), (0, u "compress"), (0, u "([CI[BII)I"), (0, .methodref 12 120), (0, .nameAndType 121 122), (0, u "toBytes"), (0, u "([CII)[B"), (17, u "inflate"), (0, u "([BI[BII)V"), (31, .methodref 12 174), (0, .nameAndType 175 99), (0, u "checkBoundsOffCount"), (85, u "coderFromArrayLen"), (0, u "([BI)B"), (18, u "(III)I"), (87, .class_ 371), (1, u "java/lang/StringUTF16$LinesSpliterator"), (47, .methodref 3 420), (0, .nameAndType 175 281), (9, u "MAX_LENGTH"), (44, u "(C)[B"), (151, .class_ 628), (0, u "java/lang/StringUTF16$CodePointsSpliterator"), (0, .class_ 630), (0, u "java/lang/StringUTF16$CharsSpliterator")] 4

def k23m0 : Method := ⟨"<init>", "()V", ⟨[], none⟩, 0, none⟩
def k23c1 : Code := { maxStack := 1, maxLocals := 1, code := jdk_52_method_2_code, exceptionTable := #[], attributes := #[] }
def k23m1 : Method := ⟨"newBytesFor", "(I)[B", ⟨[.int], some (.array .byte)⟩, 9, some k23c1⟩
def k23c2 : Code := { maxStack := 4, maxLocals := 1, code := jdk_52_method_3_code, exceptionTable := #[], attributes := #[] }
def k23m2 : Method := ⟨"newBytesLength", "(I)I", ⟨[.int], some .int⟩, 9, some k23c2⟩
def k23c3 : Code := { maxStack := 4, maxLocals := 3, code := jdk_52_method_4_code, exceptionTable := #[], attributes := #[] }
def k23m3 : Method := ⟨"putChar", "([BII)V", ⟨[(.array .byte), .int, .int], none⟩, 8, some k23c3⟩
def k23c4 : Code := { maxStack := 3, maxLocals := 2, code := jdk_52_method_5_code, exceptionTable := #[], attributes := #[] }
def k23m4 : Method := ⟨"getChar", "([BI)C", ⟨[(.array .byte), .int], some .char⟩, 8, some k23c4⟩
def k23c5 : Code := { maxStack := 2, maxLocals := 1, code := jdk_52_method_6_code, exceptionTable := #[], attributes := #[] }
def k23m5 : Method := ⟨"length", "([B)I", ⟨[(.array .byte)], some .int⟩, 9, some k23c5⟩
def k23c6 : Code := { maxStack := 4, maxLocals := 5, code := jdk_52_method_14_code, exceptionTable := #[], attributes := #[] }
def k23m6 : Method := ⟨"toBytes", "([CII)[B", ⟨[(.array .char), .int, .int], some (.array .byte)⟩, 9, some k23c6⟩
def k23c7 : Code := { maxStack := 2, maxLocals := 2, code := jdk_52_method_15_code, exceptionTable := #[], attributes := #[] }
def k23m7 : Method := ⟨"coderFromArrayLen", "([BI)B", ⟨[(.array .byte), .int], some .byte⟩, 8, some k23c7⟩
def k23c8 : Code := { maxStack := 5, maxLocals := 6, code := jdk_52_method_16_code, exceptionTable := #[], attributes := #[] }
def k23m8 : Method := ⟨"compress", "([CII)[B", ⟨[(.array .char), .int, .int], some (.array .byte)⟩, 9, some k23c8⟩
def k23c9 : Code := { maxStack := 3, maxLocals := 7, code := jdk_52_method_21_code, exceptionTable := #[], attributes := #[] }
def k23m9 : Method := ⟨"compress", "([CI[BII)I", ⟨[(.array .char), .int, (.array .byte), .int, .int], some .int⟩, 9, some k23c9⟩
def k23c10 : Code := { maxStack := 3, maxLocals := 2, code := jdk_52_method_24_code, exceptionTable := #[], attributes := #[] }
def k23m10 : Method := ⟨"toBytes", "(C)[B", ⟨[.char], some (.array .byte)⟩, 9, some k23c10⟩
def k23c11 : Code := { maxStack := 4, maxLocals := 6, code := jdk_52_method_86_code, exceptionTable := #[], attributes := #[] }
def k23m11 : Method := ⟨"inflate", "([BI[BII)V", ⟨[(.array .byte), .int, (.array .byte), .int, .int], none⟩, 9, some k23c11⟩
def k23c12 : Code := { maxStack := 3, maxLocals := 3, code := jdk_52_method_94_code, exceptionTable := #[], attributes := #[] }
def k23m12 : Method := ⟨"checkBoundsOffCount", "(II[B)V", ⟨[.int, .int, (.array .byte)], none⟩, 9, some k23c12⟩
def k23 : Class := { plain "java/lang/StringUTF16" (some 0) with
  accessFlags := 48
  interfaces := #[]
  cf := some (fileOf pool23 12 #[.nestMembers #[627, 629, 369]] #[⟨0, 9, 10, #[]⟩, ⟨9, 109, 110, #[]⟩, ⟨9, 15, 16, #[]⟩, ⟨8, 113, 114, #[]⟩, ⟨8, 73, 74, #[]⟩, ⟨9, 50, 51, #[]⟩, ⟨9, 121, 122, #[]⟩, ⟨8, 261, 262, #[]⟩, ⟨9, 117, 122, #[]⟩, ⟨9, 117, 118, #[]⟩, ⟨9, 121, 475, #[]⟩, ⟨9, 140, 141, #[]⟩, ⟨9, 175, 99, #[]⟩] 48 6 #[] #[⟨26, 61, 62, #[]⟩, ⟨26, 65, 62, #[]⟩, ⟨24, 430, 62, #[]⟩, ⟨4120, 46, 47, #[]⟩])
  fields := #[⟨"HI_BYTE_SHIFT", .int, 26, 0, 0⟩, ⟨"LO_BYTE_SHIFT", .int, 26, 1, 0⟩, ⟨"MAX_LENGTH", .int, 24, 2, 0⟩, ⟨"$assertionsDisabled", .boolean, 4120, 3, 0⟩]
  methods := #[k23m0, k23m1, k23m2, k23m3, k23m4, k23m5, k23m6, k23m7, k23m8, k23m9, k23m10, k23m11, k23m12]
  instanceTypes := #[]
  staticTypes := #[.int, .int, .int, .boolean]
  resolved := Array.replicate 635 none
  statics := some 2 }

def pool24 : Array CpInfo := pool [(2, .class_ 4), (1, u "java/lang/Object"), (0, u "<init>"), (0, u "()V"), (1, .class_ 10), (1, u "java/lang/Number"), (2, .class_ 14), (0, u "java/io/Serializable"), (0, u "serialVersionUID"), (0, u "J")] 20

def k24m0 : Method := ⟨"<init>", "()V", ⟨[], none⟩, 1, none⟩
def k24 : Class := { plain "java/lang/Number" (some 0) with
  accessFlags := 1057
  interfaces := #[4]
  cf := some (fileOf pool24 8 #[] #[⟨1, 5, 6, #[]⟩] 1057 2 #[13] #[⟨26, 15, 16, #[]⟩])
  fields := #[⟨"serialVersionUID", .long, 26, 0, 0⟩]
  methods := #[k24m0]
  instanceTypes := #[]
  staticTypes := #[.long]
  resolved := Array.replicate 37 none
  statics := none }

def pool25 : Array CpInfo := pool [(1, .class_ 2), (0, u "java/lang/Integer"), (16, u "digits"), (0, u "[C"), (33, u "(I)I"), (19, u "stringSize"), (2, u "getChars"), (0, u "(II[B)I"), (4, .fieldref 1 84), (0, .nameAndType 85 86), (0, u "DigitOnes"), (0, u "[B"), (2, u "DigitTens"), (99, .class_ 190), (0, u "java/lang/Integer$IntegerCache"), (3, u "I"), (8, .class_ 204), (0, u "java/lang/Number"), (2, u "value"), (94, u "TYPE"), (0, u "Ljava/lang/Class;"), (0, .class_ 305), (0, u "java/lang/Comparable"), (0, .class_ 307), (0, u "java/lang/constant/Constable"), (0, .class_ 309), (0, u "java/lang/constant/ConstantDesc"), (0, u "MIN_VALUE"), (1, u "MAX_VALUE"), (3, u "SIZE"), (1, u "BYTES"), (1, u "serialVersionUID"), (0, u "J")] 131

def k25c0 : Code := { maxStack := 4, maxLocals := 7, code := jdk_33_method_12_code, exceptionTable := #[], attributes := #[] }
def k25m0 : Method := ⟨"getChars", "(II[B)I", ⟨[.int, .int, (.array .byte)], some .int⟩, 8, some k25c0⟩
def k25c1 : Code := { maxStack := 2, maxLocals := 4, code := jdk_33_method_13_code, exceptionTable := #[], attributes := #[] }
def k25m1 : Method := ⟨"stringSize", "(I)I", ⟨[.int], some .int⟩, 8, some k25c1⟩
def k25 : Class := { plain "java/lang/Integer" (some 24) with
  accessFlags := 49
  interfaces := #[5, 7, 8]
  cf := some (fileOf pool25 1 #[.nestMembers #[189]] #[⟨8, 77, 78, #[]⟩, ⟨8, 74, 54, #[]⟩] 49 203 #[304, 306, 308] #[⟨25, 310, 194, #[]⟩, ⟨25, 312, 194, #[]⟩, ⟨25, 302, 303, #[]⟩, ⟨24, 19, 20, #[]⟩, ⟨24, 89, 86, #[]⟩, ⟨24, 85, 86, #[]⟩, ⟨18, 207, 194, #[]⟩, ⟨25, 316, 194, #[]⟩, ⟨25, 318, 194, #[]⟩, ⟨26, 320, 321, #[]⟩])
  fields := #[⟨"MIN_VALUE", .int, 25, 0, 0⟩, ⟨"MAX_VALUE", .int, 25, 1, 0⟩, ⟨"TYPE", (.object "java/lang/Class"), 25, 2, 0⟩, ⟨"digits", (.array .char), 24, 3, 0⟩, ⟨"DigitTens", (.array .byte), 24, 4, 0⟩, ⟨"DigitOnes", (.array .byte), 24, 5, 0⟩, ⟨"value", .int, 18, 0, 0⟩, ⟨"SIZE", .int, 25, 6, 0⟩, ⟨"BYTES", .int, 25, 7, 0⟩, ⟨"serialVersionUID", .long, 26, 8, 0⟩]
  methods := #[k25m0, k25m1]
  instanceTypes := #[.int]
  staticTypes := #[.int, .int, (.object "java/lang/Class"), (.array .char), (.array .byte), (.array .byte), .int, .int, .long]
  resolved := Array.replicate 453 none
  statics := some 3 }

def pool26 : Array CpInfo := pool [(2, .class_ 4), (1, u "java/lang/Object"), (0, u "<init>"), (0, u "()V"), (17, .class_ 26), (1, u "jdk/internal/util/Preconditions"), (22, u "checkFromIndexSize"), (5, .class_ 56), (0, u "jdk/internal/util/Preconditions$4"), (57, .class_ 115), (0, u "jdk/internal/util/Preconditions$1"), (7, u "SIOOBE_FORMATTER"), (0, u "Ljava/util/function/BiFunction;"), (0, .class_ 126), (0, u "jdk/internal/util/Preconditions$2"), (3, u "AIOOBE_FORMATTER"), (0, .class_ 132), (0, u "jdk/internal/util/Preconditions$3"), (3, u "IOOBE_FORMATTER"), (46, u "(IIILjava/util/function/BiFunction;)I")] 10

def k26m0 : Method := ⟨"<init>", "()V", ⟨[], none⟩, 1, none⟩
def k26c1 : Code := { maxStack := 4, maxLocals := 4, code := jdk_41_method_13_code, exceptionTable := #[], attributes := #[] }
def k26m1 : Method := ⟨"checkFromIndexSize", "(IIILjava/util/function/BiFunction;)I", ⟨[.int, .int, .int, (.object "java/util/function/BiFunction")], some .int⟩, 9, some k26c1⟩
def k26 : Class := { plain "jdk/internal/util/Preconditions" (some 0) with
  accessFlags := 33
  interfaces := #[]
  cf := some (fileOf pool26 24 #[.nestMembers #[55, 131, 125, 114]] #[⟨1, 5, 6, #[]⟩, ⟨9, 49, 183, #[]⟩] 33 2 #[] #[⟨25, 123, 124, #[]⟩, ⟨25, 130, 124, #[]⟩, ⟨25, 136, 124, #[]⟩])
  fields := #[⟨"SIOOBE_FORMATTER", (.object "java/util/function/BiFunction"), 25, 0, 0⟩, ⟨"AIOOBE_FORMATTER", (.object "java/util/function/BiFunction"), 25, 1, 0⟩, ⟨"IOOBE_FORMATTER", (.object "java/util/function/BiFunction"), 25, 2, 0⟩]
  methods := #[k26m0, k26m1]
  instanceTypes := #[]
  staticTypes := #[(.object "java/util/function/BiFunction"), (.object "java/util/function/BiFunction"), (.object "java/util/function/BiFunction")]
  resolved := Array.replicate 194 none
  statics := some 4 }

def pool27 : Array CpInfo := pool [(2, .class_ 4), (1, u "java/lang/Object"), (0, u "<init>"), (0, u "()V"), (12, .class_ 20), (0, u "java/util/Collections"), (63, u "r"), (0, u "Ljava/util/Random;"), (80, .class_ 167), (0, u "java/util/Collections$UnmodifiableCollection"), (6, .class_ 175), (0, u "java/util/Collections$UnmodifiableSequencedCollection"), (6, .class_ 183), (0, u "java/util/Collections$UnmodifiableSet"), (6, .class_ 191), (0, u "java/util/Collections$UnmodifiableSequencedSet"), (6, .class_ 199), (0, u "java/util/Collections$UnmodifiableSortedSet"), (6, .class_ 207), (0, u "java/util/Collections$UnmodifiableNavigableSet"), (4, .class_ 213), (0, u "java/util/Collections$UnmodifiableList"), (1, .class_ 216), (0, u "java/util/Collections$UnmodifiableRandomAccessList"), (6, .class_ 224), (0, u "java/util/Collections$UnmodifiableMap"), (6, .class_ 232), (0, u "java/util/Collections$UnmodifiableSequencedMap"), (4, .class_ 238), (0, u "java/util/Collections$UnmodifiableSortedMap"), (6, .class_ 246), (0, u "java/util/Collections$UnmodifiableNavigableMap"), (3, .class_ 251), (0, u "java/util/Collections$SynchronizedCollection"), (4, .class_ 257), (0, u "java/util/Collections$SynchronizedSet"), (4, .class_ 263), (0, u "java/util/Collections$SynchronizedSortedSet"), (1, .class_ 266), (0, u "java/util/Collections$SynchronizedNavigableSet"), (1, .class_ 269), (0, u "java/util/Collections$SynchronizedRandomAccessList"), (1, .class_ 272), (0, u "java/util/Collections$SynchronizedList"), (5, .class_ 279), (0, u "java/util/Collections$SynchronizedMap"), (1, .class_ 282), (0, u "java/util/Collections$SynchronizedSortedMap"), (1, .class_ 285), (0, u "java/util/Collections$SynchronizedNavigableMap"), (1, .class_ 288), (0, u "java/util/Collections$CheckedCollection"), (11, .class_ 301), (0, u "java/util/Collections$CheckedQueue"), (3, .class_ 306), (0, u "java/util/Collections$CheckedSet"), (3, .class_ 311), (0, u "java/util/Collections$CheckedSortedSet"), (3, .class_ 316), (0, u "java/util/Collections$CheckedNavigableSet"), (3, .class_ 321), (0, u "java/util/Collections$CheckedRandomAccessList"), (3, .class_ 326), (0, u "java/util/Collections$CheckedList"), (1, .class_ 329), (0, u "java/util/Collections$CheckedMap"), (3, .class_ 334), (0, u "java/util/Collections$CheckedSortedMap"), (3, .class_ 339), (0, u "java/util/Collections$CheckedNavigableMap"), (4, .class_ 346), (1, u "java/util/Collections$EmptyIterator"), (3, .class_ 352), (1, u "java/util/Collections$EmptyListIterator"), (2, .class_ 357), (1, u "java/util/Collections$EmptyEnumeration"), (4, u "EMPTY_SET"), (0, u "Ljava/util/Set;"), (6, u "EMPTY_LIST"), (0, u "Ljava/util/List;"), (2, u "EMPTY_MAP"), (0, u "Ljava/util/Map;"), (4, .class_ 381), (0, u "java/util/Collections$SingletonSet"), (2, .class_ 385), (0, u "java/util/Collections$1"), (1, .class_ 388), (0, u "java/util/Collections$2"), (1, .class_ 391), (0, u "java/util/Collections$SingletonList"), (1, .class_ 394), (0, u "java/util/Collections$SingletonMap"), (22, .class_ 418), (0, u "java/util/Collections$CopiesList"), (4, .class_ 425), (1, u "java/util/Collections$ReverseComparator"), (8, .class_ 435), (0, u "java/util/Collections$ReverseComparator2"), (6, .class_ 443), (0, u "java/util/Collections$3"), (25, .class_ 470), (0, u "java/util/Collections$SetFromMap"), (2, .class_ 474), (0, u "java/util/Collections$SequencedSetFromMap"), (3, .class_ 479), (0, u "java/util/Collections$AsLIFOQueue"), (11, .class_ 492), (0, u "java/util/Collections$EmptySet"), (1, .class_ 495), (0, u "java/util/Collections$EmptyList"), (1, .class_ 498), (0, u "java/util/Collections$EmptyMap"), (1, u "BINARYSEARCH_THRESHOLD"), (0, u "I"), (2, u "REVERSE_THRESHOLD"), (1, u "SHUFFLE_THRESHOLD"), (1, u "FILL_THRESHOLD"), (1, u "ROTATE_THRESHOLD"), (1, u "COPY_THRESHOLD"), (1, u "REPLACEALL_THRESHOLD"), (1, u "INDEXOFSUBLIST_THRESHOLD"), (333, .class_ 851), (0, u "java/util/Collections$CheckedMap$CheckedEntrySet"), (0, .class_ 853), (0, u "java/util/Collections$CheckedMap$CheckedEntrySet$CheckedEntry"), (0, .class_ 855), (0, u "java/util/Collections$CheckedMap$CheckedEntrySet$1"), (0, .class_ 857), (0, u "java/util/Collections$CheckedList$1"), (0, .class_ 859), (0, u "java/util/Collections$CheckedCollection$1"), (0, .class_ 861), (0, u "java/util/Collections$UnmodifiableNavigableMap$EmptyNavigableMap"), (0, .class_ 863), (0, u "java/util/Collections$UnmodifiableMap$UnmodifiableEntrySet"), (0, .class_ 865), (0, u "java/util/Collections$UnmodifiableMap$UnmodifiableEntrySet$UnmodifiableEntry"), (0, .class_ 867), (0, u "java/util/Collections$UnmodifiableMap$UnmodifiableEntrySet$UnmodifiableEntrySetSpliterator"), (0, .class_ 869), (0, u "java/util/Collections$UnmodifiableMap$UnmodifiableEntrySet$1"), (0, .class_ 871), (0, u "java/util/Collections$UnmodifiableList$1"), (0, .class_ 873), (0, u "java/util/Collections$UnmodifiableNavigableSet$EmptyNavigableSet"), (0, .class_ 875), (0, u "java/util/Collections$UnmodifiableCollection$1")] 57

def k27m0 : Method := ⟨"<init>", "()V", ⟨[], none⟩, 2, none⟩
def k27 : Class := { plain "java/util/Collections" (some 0) with
  accessFlags := 33
  interfaces := #[]
  cf := some (fileOf pool27 19 #[.nestMembers #[478, 473, 469, 434, 423, 417, 393, 390, 380, 497, 494, 491, 355, 350, 344, 338, 333, 328, 850, 852, 854, 320, 325, 856, 315, 310, 305, 300, 287, 858, 284, 281, 278, 268, 271, 265, 262, 256, 250, 245, 860, 237, 231, 223, 862, 864, 866, 868, 215, 212, 870, 206, 872, 198, 190, 182, 174, 166, 874, 442, 387, 384]] #[⟨2, 5, 6, #[]⟩] 33 2 #[] #[⟨26, 500, 501, #[]⟩, ⟨26, 504, 501, #[]⟩, ⟨26, 506, 501, #[]⟩, ⟨26, 508, 501, #[]⟩, ⟨26, 510, 501, #[]⟩, ⟨26, 512, 501, #[]⟩, ⟨26, 514, 501, #[]⟩, ⟨26, 516, 501, #[]⟩, ⟨10, 84, 85, #[]⟩, ⟨25, 362, 363, #[]⟩, ⟨25, 370, 371, #[]⟩, ⟨25, 374, 375, #[]⟩])
  fields := #[⟨"BINARYSEARCH_THRESHOLD", .int, 26, 0, 0⟩, ⟨"REVERSE_THRESHOLD", .int, 26, 1, 0⟩, ⟨"SHUFFLE_THRESHOLD", .int, 26, 2, 0⟩, ⟨"FILL_THRESHOLD", .int, 26, 3, 0⟩, ⟨"ROTATE_THRESHOLD", .int, 26, 4, 0⟩, ⟨"COPY_THRESHOLD", .int, 26, 5, 0⟩, ⟨"REPLACEALL_THRESHOLD", .int, 26, 6, 0⟩, ⟨"INDEXOFSUBLIST_THRESHOLD", .int, 26, 7, 0⟩, ⟨"r", (.object "java/util/Random"), 10, 8, 0⟩, ⟨"EMPTY_SET", (.object "java/util/Set"), 25, 9, 0⟩, ⟨"EMPTY_LIST", (.object "java/util/List"), 25, 10, 0⟩, ⟨"EMPTY_MAP", (.object "java/util/Map"), 25, 11, 0⟩]
  methods := #[k27m0]
  instanceTypes := #[]
  staticTypes := #[.int, .int, .int, .int, .int, .int, .int, .int, (.object "java/util/Random"), (.object "java/util/Set"), (.object "java/util/List"), (.object "java/util/Map")]
  resolved := Array.replicate 933 none
  statics := some 5 }

def pool28 : Array CpInfo := pool [(8, .class_ 10), (1, u "java/lang/Iterable"), (24, .class_ 36), (0, u "java/lang/Object")] 25

def k28 : Class := { plain "java/lang/Iterable" (some 0) with
  accessFlags := 1537
  interfaces := #[]
  cf := some (fileOf pool28 8 #[] #[] 1537 35 #[] #[])
  fields := #[]
  methods := #[]
  instanceTypes := #[]
  staticTypes := #[]
  resolved := Array.replicate 62 none
  statics := none }

def pool29 : Array CpInfo := pool [(10, .class_ 12), (1, u "java/util/Collection"), (47, .class_ 61), (0, u "java/lang/Object"), (0, .class_ 63), (0, u "java/lang/Iterable")] 51

def k29 : Class := { plain "java/util/Collection" (some 0) with
  accessFlags := 1537
  interfaces := #[28]
  cf := some (fileOf pool29 10 #[] #[] 1537 60 #[62] #[])
  fields := #[]
  methods := #[]
  instanceTypes := #[]
  staticTypes := #[]
  resolved := Array.replicate 115 none
  statics := none }

def pool30 : Array CpInfo := pool [(2, .class_ 4), (1, u "java/lang/Object"), (0, u "<init>"), (0, u "()V"), (1, .class_ 10), (1, u "java/util/AbstractCollection"), (66, .class_ 78), (0, u "java/util/Collection")] 81

def k30m0 : Method := ⟨"<init>", "()V", ⟨[], none⟩, 4, none⟩
def k30 : Class := { plain "java/util/AbstractCollection" (some 0) with
  accessFlags := 1057
  interfaces := #[29]
  cf := some (fileOf pool30 8 #[] #[⟨4, 5, 6, #[]⟩] 1057 2 #[77] #[])
  fields := #[]
  methods := #[k30m0]
  instanceTypes := #[]
  staticTypes := #[]
  resolved := Array.replicate 160 none
  statics := none }

def pool31 : Array CpInfo := pool [(8, .class_ 10), (1, u "java/util/SequencedCollection"), (15, .class_ 27), (0, u "java/lang/Object"), (0, .class_ 29), (0, u "java/util/Collection")] 27

def k31 : Class := { plain "java/util/SequencedCollection" (some 0) with
  accessFlags := 1537
  interfaces := #[29]
  cf := some (fileOf pool31 8 #[] #[] 1537 26 #[28] #[])
  fields := #[]
  methods := #[]
  instanceTypes := #[]
  staticTypes := #[]
  resolved := Array.replicate 57 none
  statics := none }

def pool32 : Array CpInfo := pool [(8, .class_ 10), (1, u "java/util/List"), (92, .class_ 104), (0, u "java/lang/Object"), (15, .class_ 121), (0, u "java/util/SequencedCollection")] 129

def k32 : Class := { plain "java/util/List" (some 0) with
  accessFlags := 1537
  interfaces := #[31]
  cf := some (fileOf pool32 8 #[] #[] 1537 103 #[120] #[])
  fields := #[]
  methods := #[]
  instanceTypes := #[]
  staticTypes := #[]
  resolved := Array.replicate 251 none
  statics := none }

def pool33 : Array CpInfo := pool [(2, .class_ 4), (1, u "java/util/AbstractCollection"), (0, u "<init>"), (0, u "()V"), (1, .class_ 10), (1, u "java/util/AbstractList"), (0, u "modCount"), (0, u "I"), (64, .class_ 78), (0, u "java/util/AbstractList$Itr"), (3, .class_ 83), (0, u "java/util/AbstractList$ListItr"), (9, .class_ 94), (0, u "java/util/AbstractList$RandomAccessSubList"), (3, .class_ 99), (0, u "java/util/AbstractList$SubList"), (33, .class_ 134), (0, u "java/util/List"), (73, .class_ 209), (0, u "java/util/AbstractList$SubList$1"), (0, .class_ 211), (0, u "java/util/AbstractList$RandomAccessSpliterator")] 6

def k33m0 : Method := ⟨"<init>", "()V", ⟨[], none⟩, 4, none⟩
def k33 : Class := { plain "java/util/AbstractList" (some 30) with
  accessFlags := 1057
  interfaces := #[32]
  cf := some (fileOf pool33 8 #[.nestMembers #[93, 98, 208, 210, 82, 77]] #[⟨4, 5, 6, #[]⟩] 1057 2 #[133] #[⟨132, 11, 12, #[]⟩])
  fields := #[⟨"modCount", .int, 132, 0, 0⟩]
  methods := #[k33m0]
  instanceTypes := #[.int]
  staticTypes := #[]
  resolved := Array.replicate 218 none
  statics := none }

def pool34 : Array CpInfo := pool [(1, .class_ 2), (0, u "java/util/RandomAccess"), (0, .class_ 4), (0, u "java/lang/Object")] 2

def k34 : Class := { plain "java/util/RandomAccess" (some 0) with
  accessFlags := 1537
  interfaces := #[]
  cf := some (fileOf pool34 1 #[] #[] 1537 3 #[] #[])
  fields := #[]
  methods := #[]
  instanceTypes := #[]
  staticTypes := #[]
  resolved := Array.replicate 7 none
  statics := none }

def pool35 : Array CpInfo := pool [(2, .class_ 4), (1, u "java/util/AbstractList"), (0, u "<init>"), (0, u "()V"), (1, .class_ 10), (1, u "java/util/Collections"), (54, .class_ 66), (0, u "java/util/Collections$EmptyList"), (0, .class_ 68), (0, u "java/util/RandomAccess"), (0, .class_ 70), (0, u "java/io/Serializable"), (0, u "serialVersionUID"), (0, u "J")] 77

def k35m0 : Method := ⟨"<init>", "()V", ⟨[], none⟩, 2, none⟩
def k35 : Class := { plain "java/util/Collections$EmptyList" (some 33) with
  accessFlags := 32
  interfaces := #[34, 4]
  cf := some (fileOf pool35 65 #[.nestHost 8] #[⟨2, 5, 6, #[]⟩] 32 2 #[67, 69] #[⟨26, 71, 72, #[]⟩])
  fields := #[⟨"serialVersionUID", .long, 26, 0, 0⟩]
  methods := #[k35m0]
  instanceTypes := #[.int]
  staticTypes := #[.long]
  resolved := Array.replicate 150 none
  statics := none }

def pool36 : Array CpInfo := pool [(2, .class_ 4), (1, u "java/lang/StackTraceElement"), (0, u "<init>"), (2, .class_ 10), (1, u "java/lang/Object"), (0, u "()V"), (2, u "format"), (0, u "B"), (2, u "classLoaderName"), (0, u "Ljava/lang/String;"), (2, u "moduleName"), (2, u "moduleVersion"), (12, u "declaringClass"), (4, u "methodName"), (2, u "fileName"), (2, u "lineNumber"), (0, u "I"), (65, u "declaringClassObject"), (0, u "Ljava/lang/Class;"), (33, .class_ 153), (1, u "java/lang/StackTraceElement$HashedModules"), (17, .class_ 172), (0, u "java/io/Serializable"), (0, u "NATIVE_METHOD"), (1, u "UNKNOWN_SOURCE"), (2, u "BUILTIN_CLASS_LOADER"), (1, u "JDK_NON_UPGRADEABLE_MODULE"), (1, u "serialVersionUID"), (0, u "J")] 51

def k36m0 : Method := ⟨"<init>", "()V", ⟨[], none⟩, 2, none⟩
def k36 : Class := { plain "java/lang/StackTraceElement" (some 0) with
  accessFlags := 49
  interfaces := #[4]
  cf := some (fileOf pool36 2 #[.nestMembers #[151]] #[⟨2, 5, 11, #[]⟩] 49 8 #[171] #[⟨26, 173, 19, #[]⟩, ⟨26, 175, 19, #[]⟩, ⟨130, 116, 117, #[]⟩, ⟨2, 18, 19, #[]⟩, ⟨2, 22, 19, #[]⟩, ⟨2, 25, 19, #[]⟩, ⟨2, 38, 19, #[]⟩, ⟨2, 43, 19, #[]⟩, ⟨2, 46, 19, #[]⟩, ⟨2, 49, 50, #[]⟩, ⟨2, 14, 15, #[]⟩, ⟨26, 178, 15, #[]⟩, ⟨26, 180, 15, #[]⟩, ⟨26, 182, 183, #[]⟩])
  fields := #[⟨"NATIVE_METHOD", (.object "java/lang/String"), 26, 0, 0⟩, ⟨"UNKNOWN_SOURCE", (.object "java/lang/String"), 26, 1, 0⟩, ⟨"declaringClassObject", (.object "java/lang/Class"), 130, 0, 0⟩, ⟨"classLoaderName", (.object "java/lang/String"), 2, 1, 0⟩, ⟨"moduleName", (.object "java/lang/String"), 2, 2, 0⟩, ⟨"moduleVersion", (.object "java/lang/String"), 2, 3, 0⟩, ⟨"declaringClass", (.object "java/lang/String"), 2, 4, 0⟩, ⟨"methodName", (.object "java/lang/String"), 2, 5, 0⟩, ⟨"fileName", (.object "java/lang/String"), 2, 6, 0⟩, ⟨"lineNumber", .int, 2, 7, 0⟩, ⟨"format", .byte, 2, 8, 0⟩, ⟨"BUILTIN_CLASS_LOADER", .byte, 26, 2, 0⟩, ⟨"JDK_NON_UPGRADEABLE_MODULE", .byte, 26, 3, 0⟩, ⟨"serialVersionUID", .long, 26, 4, 0⟩]
  methods := #[k36m0]
  instanceTypes := #[(.object "java/lang/Class"), (.object "java/lang/String"), (.object "java/lang/String"), (.object "java/lang/String"), (.object "java/lang/String"), (.object "java/lang/String"), (.object "java/lang/String"), .int, .byte]
  staticTypes := #[(.object "java/lang/String"), (.object "java/lang/String"), .byte, .byte, .long]
  resolved := Array.replicate 235 none
  statics := none }

def k37 : Class := { plain "byte" none with kind := .primitive 'B', accessFlags := 0x411 }
def k38 : Class := { plain "[B" (some 0) with kind := .array 37 .byte, interfaces := #[22, 4], accessFlags := 1041 }

def k39 : Class := { plain "char" none with kind := .primitive 'C', accessFlags := 0x411 }
def k40 : Class := { plain "[C" (some 0) with kind := .array 39 .char, interfaces := #[22, 4], accessFlags := 1041 }

def k41 : Class := { plain "int" none with kind := .primitive 'I', accessFlags := 0x411 }
def k42 : Class := { plain "[I" (some 0) with kind := .array 41 .int, interfaces := #[22, 4], accessFlags := 1041 }

def k43 : Class := { plain "[Ljava/lang/Object;" (some 0) with kind := .array 0 (.object "java/lang/Object"), interfaces := #[22, 4], accessFlags := 1041 }

def k44 : Class := { plain "[Ljava/lang/StackTraceElement;" (some 0) with kind := .array 36 (.object "java/lang/StackTraceElement"), interfaces := #[22, 4], accessFlags := 1041 }

def k45 : Class := { plain "[Ljava/lang/Throwable;" (some 0) with kind := .array 18 (.object "java/lang/Throwable"), interfaces := #[22, 4], accessFlags := 1041 }

def heap : Heap := #[{ cls := 9, slots := #[.long 0, .int 1, .null, .int 0, .null, .int 0, .int 0], vm := .statics 9 },
  { cls := 18, slots := #[.long 0, .ref 8, .ref 9, .null, .null, .null, .null, .ref 10, .int 1], vm := .statics 18 },
  { cls := 23, slots := #[.int 0, .int 8, .int 0, .int 1], vm := .statics 23 },
  { cls := 25, slots := #[.int 0, .int 0, .null, .null, .ref 7, .ref 6, .int 0, .int 0, .long 0], vm := .statics 25 },
  { cls := 26, slots := #[.null, .null, .null], vm := .statics 26 },
  { cls := 27, slots := #[.int 0, .int 0, .int 0, .int 0, .int 0, .int 0, .int 0, .int 0, .null, .null, .ref 9, .null], vm := .statics 27 },
  { cls := 38, slots := #[.int 48, .int 49, .int 50, .int 51, .int 52, .int 53, .int 54, .int 55, .int 56, .int 57, .int 48, .int 49, .int 50, .int 51, .int 52, .int 53, .int 54, .int 55, .int 56, .int 57, .int 48, .int 49, .int 50, .int 51, .int 52, .int 53, .int 54, .int 55, .int 56, .int 57, .int 48, .int 49, .int 50, .int 51, .int 52, .int 53, .int 54, .int 55, .int 56, .int 57, .int 48, .int 49, .int 50, .int 51, .int 52, .int 53, .int 54, .int 55, .int 56, .int 57, .int 48, .int 49, .int 50, .int 51, .int 52, .int 53, .int 54, .int 55, .int 56, .int 57, .int 48, .int 49, .int 50, .int 51, .int 52, .int 53, .int 54, .int 55, .int 56, .int 57, .int 48, .int 49, .int 50, .int 51, .int 52, .int 53, .int 54, .int 55, .int 56, .int 57, .int 48, .int 49, .int 50, .int 51, .int 52, .int 53, .int 54, .int 55, .int 56, .int 57, .int 48, .int 49, .int 50, .int 51, .int 52, .int 53, .int 54, .int 55, .int 56, .int 57], vm := .none },
  { cls := 38, slots := #[.int 48, .int 48, .int 48, .int 48, .int 48, .int 48, .int 48, .int 48, .int 48, .int 48, .int 49, .int 49, .int 49, .int 49, .int 49, .int 49, .int 49, .int 49, .int 49, .int 49, .int 50, .int 50, .int 50, .int 50, .int 50, .int 50, .int 50, .int 50, .int 50, .int 50, .int 51, .int 51, .int 51, .int 51, .int 51, .int 51, .int 51, .int 51, .int 51, .int 51, .int 52, .int 52, .int 52, .int 52, .int 52, .int 52, .int 52, .int 52, .int 52, .int 52, .int 53, .int 53, .int 53, .int 53, .int 53, .int 53, .int 53, .int 53, .int 53, .int 53, .int 54, .int 54, .int 54, .int 54, .int 54, .int 54, .int 54, .int 54, .int 54, .int 54, .int 55, .int 55, .int 55, .int 55, .int 55, .int 55, .int 55, .int 55, .int 55, .int 55, .int 56, .int 56, .int 56, .int 56, .int 56, .int 56, .int 56, .int 56, .int 56, .int 56, .int 57, .int 57, .int 57, .int 57, .int 57, .int 57, .int 57, .int 57, .int 57, .int 57], vm := .none },
  { cls := 44, slots := #[], vm := .none },
  { cls := 35, slots := #[.int 0], vm := .none },
  { cls := 45, slots := #[], vm := .none }]
def classes : Array Class := #[k0, k1, k2, k3, k4, k5, k6, k7, k8, k9, k10, k11, k12, k13, k14, k15, k16, k17, k18, k19, k20, k21, k22, k23, k24, k25, k26, k27, k28, k29, k30, k31, k32, k33, k34, k35, k36, k37, k38, k39, k40, k41, k42, k43, k44, k45]
def interned : List (Array UInt16 × Addr) := []
def slotsUsed : Nat := 245
def theMethod : MethodId := ⟨1, 1⟩
def args0 : Array Value := #[.int 3, .int 65, .int 66, .int 67, .int 300]
def aboutOver (below : List Frame) : State where
  vm := { classes := classes, interned := interned.toArray }
  heap := heap
  slotsUsed := slotsUsed
  threads := #[{ frames := .invoking theMethod args0 :: below }]
def below0 : List Frame := [.native { method := ⟨0, 0⟩, args := #[] }]
def about1 : State := aboutOver below0
def p0 : Program := .bare "" "" ""
def e0 : Env := launch0.env 0 0 0
theorem w_frames : about1.frames = Frame.invoking theMethod args0 :: below0 := rfl
theorem w_args : argsFit about1.vm theMethod args0 = true := by decide +kernel
theorem w_heap : heapFits about1 = true := by decide +kernel
theorem w_runnable : about1.curStatus? = some .runnable := by decide +kernel
theorem w_alone : about1.alone = true := by decide +kernel
theorem w_named : about1.methodNamed? x = some theMethod := by decide +kernel
theorem w_hears : about1.hears theMethod below0 = true := by decide +kernel
theorem w_ripe : about1.ripe theMethod args0 below0 = true := by decide +kernel
theorem w_running : about1.status = .running := rfl
theorem w_room : about1.hasRoom e0.platform room_1 = true :=
  launch0.hasRoom_least _ room_1 (by decide +kernel) (by decide +kernel) (by decide +kernel) (by decide +kernel) (by decide +kernel) (by decide +kernel)
theorem allAtoms_all (ts : List Jvm.Cond) (a : Array Jvm.Value) (st : Jvm.State) : (allAtoms ts).before a st = ts.all (fun c => c.before a st) := by
  induction ts with
  | nil => rfl
  | cons c t ih =>
    show (Jvm.Cond.and c (allAtoms t)).before a st = _
    rw [Jvm.Cond.before_and, ih, List.all_cons]
def words1 : List Jvm.Cond := Jvm.Cond.code x code maxLocals ret :: tables_1
theorem code_word {y : MethodName} {bytes : ByteArray} {mx : Nat} {rt : Option FieldType} {a : Array Value} {s : State} {m : MethodId} {meth : Method} {c : Code} (h1 : s.methodNamed? y = some m) (h2 : s.vm.method? m = some meth) (h3 : meth.code = some c) (h4 : c.code = bytes)
    (h5 : (c.maxLocals == mx && c.exceptionTable.isEmpty && decide (c.maxStack ≤ mostOperands) && decide (meth.sig.returnType = rt) && !meth.locks && decide (parseMethodDescriptor y.desc = some meth.sig)) = true) : (Jvm.Cond.code y bytes mx rt).before a s = true := by
  simp only [Bool.and_eq_true, beq_iff_eq, Bool.not_eq_true', decide_eq_true_eq] at h5
  obtain ⟨⟨⟨⟨⟨g1, g2⟩, g3⟩, g4⟩, g5⟩, g6⟩ := h5
  simp [Cond.before, Cond.holds, Cond.value, h1, h2, h3, h4, g1, g2, g3, g4, g5, g6]
def isCode : Jvm.Cond → Bool
  | .code _ _ _ _ => true
  | _ => false
theorem all_split {L : List Jvm.Cond} {P : Jvm.Cond → Bool} (h1 : L.all (fun c => isCode c || P c) = true) (h2 : ∀ c ∈ L.filter isCode, P c = true) : L.all P = true := by
  refine List.all_eq_true.mpr fun c hc => ?_
  have h := List.all_eq_true.mp h1 c hc
  rcases Bool.eq_false_or_eq_true (isCode c) with hi | hi
  · exact h2 c (List.mem_filter.mpr ⟨hc, hi⟩)
  · simpa [hi] using h
theorem w_c0 : (Jvm.Cond.code x code maxLocals ret).before args0 about1 = true := code_word (m := ⟨1, 1⟩) (meth := k1m1) (c := k1c1) (by decide +kernel) rfl rfl rfl (by decide +kernel)
theorem w_c1 : (Jvm.Cond.code ⟨"java/lang/String", "valueOf", "(C)Ljava/lang/String;"⟩ jdk_42_method_139_code 1 (some (.object "java/lang/String"))).before args0 about1 = true := code_word (m := ⟨9, 5⟩) (meth := k9m5) (c := k9c5) (by decide +kernel) rfl rfl rfl (by decide +kernel)
theorem w_c2 : (Jvm.Cond.code ⟨"java/lang/StringLatin1", "canEncode", "(C)Z"⟩ jdk_43_method_3_code 1 (some .boolean)).before args0 about1 = true := code_word (m := ⟨10, 1⟩) (meth := k10m1) (c := k10c1) (by decide +kernel) rfl rfl rfl (by decide +kernel)
theorem w_c3 : (Jvm.Cond.code ⟨"java/lang/StringLatin1", "toBytes", "(C)[B"⟩ jdk_43_method_46_code 1 (some (.array .byte))).before args0 about1 = true := code_word (m := ⟨10, 3⟩) (meth := k10m3) (c := k10c3) (by decide +kernel) rfl rfl rfl (by decide +kernel)
theorem w_c4 : (Jvm.Cond.code ⟨"java/lang/String", "<init>", "([BB)V"⟩ jdk_42_method_151_code 3 none).before args0 about1 = true := code_word (m := ⟨9, 9⟩) (meth := k9m9) (c := k9c9) (by decide +kernel) rfl rfl rfl (by decide +kernel)
theorem w_c5 : (Jvm.Cond.code ⟨"java/lang/Object", "<init>", "()V"⟩ object_method_1_code 1 none).before args0 about1 = true := code_word (m := ⟨0, 0⟩) (meth := k0m0) (c := k0c0) (by decide +kernel) rfl rfl rfl (by decide +kernel)
theorem w_c6 : (Jvm.Cond.code ⟨"com/example/oyster/oyster/XmlElement", "<init>", "(Ljava/lang/String;Ljava/util/Map;Ljava/lang/String;Ljava/util/List;Ljava/lang/String;I)V"⟩ prog_28_method_1_code 7 none).before args0 about1 = true := code_word (m := ⟨3, 0⟩) (meth := k3m0) (c := k3c0) (by decide +kernel) rfl rfl rfl (by decide +kernel)
theorem w_c7 : (Jvm.Cond.code ⟨"java/lang/Record", "<init>", "()V"⟩ jdk_30_method_1_code 1 none).before args0 about1 = true := code_word (m := ⟨2, 0⟩) (meth := k2m0) (c := k2c0) (by decide +kernel) rfl rfl rfl (by decide +kernel)
theorem w_c8 : (Jvm.Cond.code ⟨"com/example/oyster/oyster/XmlElement", "unread", "(Ljava/lang/String;Ljava/lang/String;)Lcom/example/oyster/oyster/XmlDefinitionException;"⟩ prog_28_method_11_code 3 (some (.object "com/example/oyster/oyster/XmlDefinitionException"))).before args0 about1 = true := code_word (m := ⟨3, 2⟩) (meth := k3m2) (c := k3c2) (by decide +kernel) rfl rfl rfl (by decide +kernel)
theorem w_c9 : (Jvm.Cond.code ⟨"java/lang/StringBuilder", "<init>", "()V"⟩ jdk_67_method_1_code 1 none).before args0 about1 = true := code_word (m := ⟨13, 0⟩) (meth := k13m0) (c := k13c0) (by decide +kernel) rfl rfl rfl (by decide +kernel)
theorem w_c10 : (Jvm.Cond.code ⟨"java/lang/AbstractStringBuilder", "<init>", "(I)V"⟩ jdk_68_method_2_code 2 none).before args0 about1 = true := code_word (m := ⟨12, 1⟩) (meth := k12m1) (c := k12c1) (by decide +kernel) rfl rfl rfl (by decide +kernel)
theorem w_c11 : (Jvm.Cond.code ⟨"java/lang/StringBuilder", "append", "(Ljava/lang/String;)Ljava/lang/StringBuilder;"⟩ jdk_67_method_7_code 2 (some (.object "java/lang/StringBuilder"))).before args0 about1 = true := code_word (m := ⟨13, 1⟩) (meth := k13m1) (c := k13c1) (by decide +kernel) rfl rfl rfl (by decide +kernel)
theorem w_c12 : (Jvm.Cond.code ⟨"java/lang/AbstractStringBuilder", "append", "(Ljava/lang/String;)Ljava/lang/AbstractStringBuilder;"⟩ jdk_68_method_22_code 3 (some (.object "java/lang/AbstractStringBuilder"))).before args0 about1 = true := code_word (m := ⟨12, 6⟩) (meth := k12m6) (c := k12c6) (by decide +kernel) rfl rfl rfl (by decide +kernel)
theorem w_c13 : (Jvm.Cond.code ⟨"java/lang/String", "length", "()I"⟩ jdk_42_method_54_code 1 (some .int)).before args0 about1 = true := code_word (m := ⟨9, 3⟩) (meth := k9m3) (c := k9c3) (by decide +kernel) rfl rfl rfl (by decide +kernel)
theorem w_c14 : (Jvm.Cond.code ⟨"java/lang/String", "coder", "()B"⟩ jdk_42_method_152_code 1 (some .byte)).before args0 about1 = true := code_word (m := ⟨9, 10⟩) (meth := k9m10) (c := k9c10) (by decide +kernel) rfl rfl rfl (by decide +kernel)
theorem w_c15 : (Jvm.Cond.code ⟨"java/lang/AbstractStringBuilder", "ensureCapacityInternal", "(I)V"⟩ jdk_68_method_9_code 3 none).before args0 about1 = true := code_word (m := ⟨12, 3⟩) (meth := k12m3) (c := k12c3) (by decide +kernel) rfl rfl rfl (by decide +kernel)
theorem w_c16 : (Jvm.Cond.code ⟨"java/lang/AbstractStringBuilder", "putStringAt", "(ILjava/lang/String;)V"⟩ jdk_68_method_73_code 3 none).before args0 about1 = true := code_word (m := ⟨12, 11⟩) (meth := k12m11) (c := k12c11) (by decide +kernel) rfl rfl rfl (by decide +kernel)
theorem w_c17 : (Jvm.Cond.code ⟨"java/lang/AbstractStringBuilder", "inflateIfNeededFor", "(Ljava/lang/String;)V"⟩ jdk_68_method_71_code 2 none).before args0 about1 = true := code_word (m := ⟨12, 10⟩) (meth := k12m10) (c := k12c10) (by decide +kernel) rfl rfl rfl (by decide +kernel)
theorem w_c18 : (Jvm.Cond.code ⟨"java/lang/String", "getBytes", "([BIB)V"⟩ jdk_42_method_147_code 4 none).before args0 about1 = true := code_word (m := ⟨9, 6⟩) (meth := k9m6) (c := k9c6) (by decide +kernel) rfl rfl rfl (by decide +kernel)
theorem w_c19 : (Jvm.Cond.code ⟨"java/lang/AbstractStringBuilder", "newCapacity", "(I)I"⟩ jdk_68_method_10_code 6 (some .int)).before args0 about1 = true := code_word (m := ⟨12, 4⟩) (meth := k12m4) (c := k12c4) (by decide +kernel) rfl rfl rfl (by decide +kernel)
theorem w_c20 : (Jvm.Cond.code ⟨"jdk/internal/util/ArraysSupport", "newLength", "(III)I"⟩ jdk_48_method_27_code 4 (some .int)).before args0 about1 = true := code_word (m := ⟨15, 1⟩) (meth := k15m1) (c := k15c1) (by decide +kernel) rfl rfl rfl (by decide +kernel)
theorem w_c21 : (Jvm.Cond.code ⟨"java/lang/Math", "max", "(II)I"⟩ jdk_29_method_65_code 2 (some .int)).before args0 about1 = true := code_word (m := ⟨16, 1⟩) (meth := k16m1) (c := k16c1) (by decide +kernel) rfl rfl rfl (by decide +kernel)
theorem w_c22 : (Jvm.Cond.code ⟨"java/util/Arrays", "copyOf", "([BI)[B"⟩ jdk_65_method_121_code 3 (some (.array .byte))).before args0 about1 = true := code_word (m := ⟨17, 1⟩) (meth := k17m1) (c := k17c1) (by decide +kernel) rfl rfl rfl (by decide +kernel)
theorem w_c23 : (Jvm.Cond.code ⟨"java/lang/Math", "min", "(II)I"⟩ jdk_29_method_69_code 2 (some .int)).before args0 about1 = true := code_word (m := ⟨16, 2⟩) (meth := k16m2) (c := k16c2) (by decide +kernel) rfl rfl rfl (by decide +kernel)
theorem w_c24 : (Jvm.Cond.code ⟨"java/lang/StringBuilder", "toString", "()Ljava/lang/String;"⟩ jdk_67_method_42_code 1 (some (.object "java/lang/String"))).before args0 about1 = true := code_word (m := ⟨13, 3⟩) (meth := k13m3) (c := k13c3) (by decide +kernel) rfl rfl rfl (by decide +kernel)
theorem w_c25 : (Jvm.Cond.code ⟨"java/lang/String", "<init>", "(Ljava/lang/StringBuilder;)V"⟩ jdk_42_method_53_code 2 none).before args0 about1 = true := code_word (m := ⟨9, 2⟩) (meth := k9m2) (c := k9c2) (by decide +kernel) rfl rfl rfl (by decide +kernel)
theorem w_c26 : (Jvm.Cond.code ⟨"java/lang/String", "<init>", "(Ljava/lang/AbstractStringBuilder;Ljava/lang/Void;)V"⟩ jdk_42_method_150_code 5 none).before args0 about1 = true := code_word (m := ⟨9, 8⟩) (meth := k9m8) (c := k9c8) (by decide +kernel) rfl rfl rfl (by decide +kernel)
theorem w_c27 : (Jvm.Cond.code ⟨"java/lang/AbstractStringBuilder", "getValue", "()[B"⟩ jdk_68_method_64_code 1 (some (.array .byte))).before args0 about1 = true := code_word (m := ⟨12, 8⟩) (meth := k12m8) (c := k12c8) (by decide +kernel) rfl rfl rfl (by decide +kernel)
theorem w_c28 : (Jvm.Cond.code ⟨"java/lang/StringBuilder", "length", "()I"⟩ jdk_67_method_93_code 1 (some .int)).before args0 about1 = true := code_word (m := ⟨13, 4⟩) (meth := k13m4) (c := k13c4) (by decide +kernel) rfl rfl rfl (by decide +kernel)
theorem w_c29 : (Jvm.Cond.code ⟨"java/lang/AbstractStringBuilder", "length", "()I"⟩ jdk_68_method_6_code 1 (some .int)).before args0 about1 = true := code_word (m := ⟨12, 2⟩) (meth := k12m2) (c := k12c2) (by decide +kernel) rfl rfl rfl (by decide +kernel)
theorem w_c30 : (Jvm.Cond.code ⟨"java/lang/AbstractStringBuilder", "isLatin1", "()Z"⟩ jdk_68_method_68_code 1 (some .boolean)).before args0 about1 = true := code_word (m := ⟨12, 9⟩) (meth := k12m9) (c := k12c9) (by decide +kernel) rfl rfl rfl (by decide +kernel)
theorem w_c31 : (Jvm.Cond.code ⟨"java/util/Arrays", "copyOfRange", "([BII)[B"⟩ jdk_65_method_132_code 3 (some (.array .byte))).before args0 about1 = true := code_word (m := ⟨17, 3⟩) (meth := k17m3) (c := k17c3) (by decide +kernel) rfl rfl rfl (by decide +kernel)
theorem w_c32 : (Jvm.Cond.code ⟨"java/util/Arrays", "copyOfRangeByte", "([BII)[B"⟩ jdk_65_method_133_code 5 (some (.array .byte))).before args0 about1 = true := code_word (m := ⟨17, 4⟩) (meth := k17m4) (c := k17c4) (by decide +kernel) rfl rfl rfl (by decide +kernel)
theorem w_c33 : (Jvm.Cond.code ⟨"java/util/Arrays", "checkLength", "(II)V"⟩ jdk_65_method_131_code 2 none).before args0 about1 = true := code_word (m := ⟨17, 2⟩) (meth := k17m2) (c := k17c2) (by decide +kernel) rfl rfl rfl (by decide +kernel)
theorem w_c34 : (Jvm.Cond.code ⟨"com/example/oyster/oyster/XmlElement", "refusal", "(Ljava/lang/String;Ljava/lang/Throwable;)Lcom/example/oyster/oyster/XmlDefinitionException;"⟩ prog_28_method_3_code 3 (some (.object "com/example/oyster/oyster/XmlDefinitionException"))).before args0 about1 = true := code_word (m := ⟨3, 1⟩) (meth := k3m1) (c := k3c1) (by decide +kernel) rfl rfl rfl (by decide +kernel)
theorem w_c35 : (Jvm.Cond.code ⟨"com/example/oyster/oyster/XmlDefinitionException", "<init>", "(Ljava/lang/String;ILjava/lang/String;Ljava/lang/Throwable;)V"⟩ prog_27_method_1_code 5 none).before args0 about1 = true := code_word (m := ⟨21, 0⟩) (meth := k21m0) (c := k21c0) (by decide +kernel) rfl rfl rfl (by decide +kernel)
theorem w_c36 : (Jvm.Cond.code ⟨"java/lang/RuntimeException", "<init>", "(Ljava/lang/String;Ljava/lang/Throwable;)V"⟩ jdk_58_method_3_code 3 none).before args0 about1 = true := code_word (m := ⟨20, 1⟩) (meth := k20m1) (c := k20c1) (by decide +kernel) rfl rfl rfl (by decide +kernel)
theorem w_c37 : (Jvm.Cond.code ⟨"java/lang/Exception", "<init>", "(Ljava/lang/String;Ljava/lang/Throwable;)V"⟩ jdk_59_method_3_code 3 none).before args0 about1 = true := code_word (m := ⟨19, 1⟩) (meth := k19m1) (c := k19c1) (by decide +kernel) rfl rfl rfl (by decide +kernel)
theorem w_c38 : (Jvm.Cond.code ⟨"java/lang/Throwable", "<init>", "(Ljava/lang/String;Ljava/lang/Throwable;)V"⟩ jdk_78_method_3_code 3 none).before args0 about1 = true := code_word (m := ⟨18, 1⟩) (meth := k18m1) (c := k18c1) (by decide +kernel) rfl rfl rfl (by decide +kernel)
theorem w_c39 : (Jvm.Cond.code ⟨"java/lang/Throwable", "<init>", "()V"⟩ jdk_78_method_1_code 1 none).before args0 about1 = true := code_word (m := ⟨18, 0⟩) (meth := k18m0) (c := k18c0) (by decide +kernel) rfl rfl rfl (by decide +kernel)
theorem w_c40 : (Jvm.Cond.code ⟨"java/lang/String", "<init>", "([C)V"⟩ jdk_42_method_3_code 2 none).before args0 about1 = true := code_word (m := ⟨9, 1⟩) (meth := k9m1) (c := k9c1) (by decide +kernel) rfl rfl rfl (by decide +kernel)
theorem w_c41 : (Jvm.Cond.code ⟨"java/lang/String", "<init>", "([CIILjava/lang/Void;)V"⟩ jdk_42_method_149_code 6 none).before args0 about1 = true := code_word (m := ⟨9, 7⟩) (meth := k9m7) (c := k9c7) (by decide +kernel) rfl rfl rfl (by decide +kernel)
theorem w_c42 : (Jvm.Cond.code ⟨"java/lang/StringUTF16", "compress", "([CII)[B"⟩ jdk_52_method_16_code 6 (some (.array .byte))).before args0 about1 = true := code_word (m := ⟨23, 8⟩) (meth := k23m8) (c := k23c8) (by decide +kernel) rfl rfl rfl (by decide +kernel)
theorem w_c43 : (Jvm.Cond.code ⟨"java/lang/StringUTF16", "compress", "([CI[BII)I"⟩ jdk_52_method_21_code 7 (some .int)).before args0 about1 = true := code_word (m := ⟨23, 9⟩) (meth := k23m9) (c := k23c9) (by decide +kernel) rfl rfl rfl (by decide +kernel)
theorem w_c44 : (Jvm.Cond.code ⟨"java/lang/StringUTF16", "coderFromArrayLen", "([BI)B"⟩ jdk_52_method_15_code 2 (some .byte)).before args0 about1 = true := code_word (m := ⟨23, 7⟩) (meth := k23m7) (c := k23c7) (by decide +kernel) rfl rfl rfl (by decide +kernel)
theorem w_c45 : (Jvm.Cond.code ⟨"java/lang/Throwable", "getMessage", "()Ljava/lang/String;"⟩ jdk_78_method_6_code 1 (some (.object "java/lang/String"))).before args0 about1 = true := code_word (m := ⟨18, 2⟩) (meth := k18m2) (c := k18c2) (by decide +kernel) rfl rfl rfl (by decide +kernel)
theorem w_c46 : (Jvm.Cond.code ⟨"java/lang/String", "equals", "(Ljava/lang/Object;)Z"⟩ jdk_42_method_66_code 3 (some .boolean)).before args0 about1 = true := code_word (m := ⟨9, 4⟩) (meth := k9m4) (c := k9c4) (by decide +kernel) rfl rfl rfl (by decide +kernel)
theorem w_c47 : (Jvm.Cond.code ⟨"java/lang/StringLatin1", "equals", "([B[B)Z"⟩ jdk_43_method_13_code 3 (some .boolean)).before args0 about1 = true := code_word (m := ⟨10, 2⟩) (meth := k10m2) (c := k10c2) (by decide +kernel) rfl rfl rfl (by decide +kernel)
theorem w_c48 : (Jvm.Cond.code ⟨"java/lang/StringBuilder", "append", "(I)Ljava/lang/StringBuilder;"⟩ jdk_67_method_15_code 2 (some (.object "java/lang/StringBuilder"))).before args0 about1 = true := code_word (m := ⟨13, 2⟩) (meth := k13m2) (c := k13c2) (by decide +kernel) rfl rfl rfl (by decide +kernel)
theorem w_c49 : (Jvm.Cond.code ⟨"java/lang/AbstractStringBuilder", "append", "(I)Ljava/lang/AbstractStringBuilder;"⟩ jdk_68_method_32_code 4 (some (.object "java/lang/AbstractStringBuilder"))).before args0 about1 = true := code_word (m := ⟨12, 7⟩) (meth := k12m7) (c := k12c7) (by decide +kernel) rfl rfl rfl (by decide +kernel)
theorem w_c50 : (Jvm.Cond.code ⟨"java/lang/Integer", "stringSize", "(I)I"⟩ jdk_33_method_13_code 4 (some .int)).before args0 about1 = true := code_word (m := ⟨25, 1⟩) (meth := k25m1) (c := k25c1) (by decide +kernel) rfl rfl rfl (by decide +kernel)
theorem w_c51 : (Jvm.Cond.code ⟨"java/lang/Integer", "getChars", "(II[B)I"⟩ jdk_33_method_12_code 7 (some .int)).before args0 about1 = true := code_word (m := ⟨25, 0⟩) (meth := k25m0) (c := k25c0) (by decide +kernel) rfl rfl rfl (by decide +kernel)
theorem w_c52 : (Jvm.Cond.code ⟨"java/lang/StringUTF16", "toBytes", "(C)[B"⟩ jdk_52_method_24_code 2 (some (.array .byte))).before args0 about1 = true := code_word (m := ⟨23, 10⟩) (meth := k23m10) (c := k23c10) (by decide +kernel) rfl rfl rfl (by decide +kernel)
theorem w_c53 : (Jvm.Cond.code ⟨"java/lang/StringUTF16", "putChar", "([BII)V"⟩ jdk_52_method_4_code 3 none).before args0 about1 = true := code_word (m := ⟨23, 3⟩) (meth := k23m3) (c := k23c3) (by decide +kernel) rfl rfl rfl (by decide +kernel)
theorem w_c54 : (Jvm.Cond.code ⟨"java/lang/AbstractStringBuilder", "inflate", "()V"⟩ jdk_68_method_11_code 2 none).before args0 about1 = true := code_word (m := ⟨12, 5⟩) (meth := k12m5) (c := k12c5) (by decide +kernel) rfl rfl rfl (by decide +kernel)
theorem w_c55 : (Jvm.Cond.code ⟨"java/lang/StringUTF16", "newBytesFor", "(I)[B"⟩ jdk_52_method_2_code 1 (some (.array .byte))).before args0 about1 = true := code_word (m := ⟨23, 1⟩) (meth := k23m1) (c := k23c1) (by decide +kernel) rfl rfl rfl (by decide +kernel)
theorem w_c56 : (Jvm.Cond.code ⟨"java/lang/StringUTF16", "newBytesLength", "(I)I"⟩ jdk_52_method_3_code 1 (some .int)).before args0 about1 = true := code_word (m := ⟨23, 2⟩) (meth := k23m2) (c := k23c2) (by decide +kernel) rfl rfl rfl (by decide +kernel)
theorem w_c57 : (Jvm.Cond.code ⟨"java/lang/StringLatin1", "inflate", "([BI[BII)V"⟩ jdk_43_method_50_code 5 none).before args0 about1 = true := code_word (m := ⟨10, 4⟩) (meth := k10m4) (c := k10c4) (by decide +kernel) rfl rfl rfl (by decide +kernel)
theorem w_c58 : (Jvm.Cond.code ⟨"java/lang/StringUTF16", "inflate", "([BI[BII)V"⟩ jdk_52_method_86_code 6 none).before args0 about1 = true := code_word (m := ⟨23, 11⟩) (meth := k23m11) (c := k23c11) (by decide +kernel) rfl rfl rfl (by decide +kernel)
theorem w_c59 : (Jvm.Cond.code ⟨"java/lang/StringUTF16", "checkBoundsOffCount", "(II[B)V"⟩ jdk_52_method_94_code 3 none).before args0 about1 = true := code_word (m := ⟨23, 12⟩) (meth := k23m12) (c := k23c12) (by decide +kernel) rfl rfl rfl (by decide +kernel)
theorem w_c60 : (Jvm.Cond.code ⟨"java/lang/StringUTF16", "length", "([B)I"⟩ jdk_52_method_6_code 1 (some .int)).before args0 about1 = true := code_word (m := ⟨23, 5⟩) (meth := k23m5) (c := k23c5) (by decide +kernel) rfl rfl rfl (by decide +kernel)
theorem w_c61 : (Jvm.Cond.code ⟨"java/lang/String", "checkBoundsOffCount", "(III)I"⟩ jdk_42_method_157_code 3 (some .int)).before args0 about1 = true := code_word (m := ⟨9, 11⟩) (meth := k9m11) (c := k9c11) (by decide +kernel) rfl rfl rfl (by decide +kernel)
theorem w_c62 : (Jvm.Cond.code ⟨"jdk/internal/util/Preconditions", "checkFromIndexSize", "(IIILjava/util/function/BiFunction;)I"⟩ jdk_41_method_13_code 4 (some .int)).before args0 about1 = true := code_word (m := ⟨26, 1⟩) (meth := k26m1) (c := k26c1) (by decide +kernel) rfl rfl rfl (by decide +kernel)
theorem w_c63 : (Jvm.Cond.code ⟨"java/lang/StringUTF16", "toBytes", "([CII)[B"⟩ jdk_52_method_14_code 5 (some (.array .byte))).before args0 about1 = true := code_word (m := ⟨23, 6⟩) (meth := k23m6) (c := k23c6) (by decide +kernel) rfl rfl rfl (by decide +kernel)
theorem w_c64 : (Jvm.Cond.code ⟨"java/lang/StringUTF16", "getChar", "([BI)C"⟩ jdk_52_method_5_code 2 (some .char)).before args0 about1 = true := code_word (m := ⟨23, 4⟩) (meth := k23m4) (c := k23c4) (by decide +kernel) rfl rfl rfl (by decide +kernel)
def codes1 : List Jvm.Cond := [Jvm.Cond.code x code maxLocals ret, .code ⟨"java/lang/String", "valueOf", "(C)Ljava/lang/String;"⟩ jdk_42_method_139_code 1 (some (.object "java/lang/String")), .code ⟨"java/lang/StringLatin1", "canEncode", "(C)Z"⟩ jdk_43_method_3_code 1 (some .boolean), .code ⟨"java/lang/StringLatin1", "toBytes", "(C)[B"⟩ jdk_43_method_46_code 1 (some (.array .byte)), .code ⟨"java/lang/String", "<init>", "([BB)V"⟩ jdk_42_method_151_code 3 none, .code ⟨"java/lang/Object", "<init>", "()V"⟩ object_method_1_code 1 none, .code ⟨"com/example/oyster/oyster/XmlElement", "<init>", "(Ljava/lang/String;Ljava/util/Map;Ljava/lang/String;Ljava/util/List;Ljava/lang/String;I)V"⟩ prog_28_method_1_code 7 none, .code ⟨"java/lang/Record", "<init>", "()V"⟩ jdk_30_method_1_code 1 none, .code ⟨"com/example/oyster/oyster/XmlElement", "unread", "(Ljava/lang/String;Ljava/lang/String;)Lcom/example/oyster/oyster/XmlDefinitionException;"⟩ prog_28_method_11_code 3 (some (.object "com/example/oyster/oyster/XmlDefinitionException")), .code ⟨"java/lang/StringBuilder", "<init>", "()V"⟩ jdk_67_method_1_code 1 none, .code ⟨"java/lang/AbstractStringBuilder", "<init>", "(I)V"⟩ jdk_68_method_2_code 2 none, .code ⟨"java/lang/StringBuilder", "append", "(Ljava/lang/String;)Ljava/lang/StringBuilder;"⟩ jdk_67_method_7_code 2 (some (.object "java/lang/StringBuilder")), .code ⟨"java/lang/AbstractStringBuilder", "append", "(Ljava/lang/String;)Ljava/lang/AbstractStringBuilder;"⟩ jdk_68_method_22_code 3 (some (.object "java/lang/AbstractStringBuilder")), .code ⟨"java/lang/String", "length", "()I"⟩ jdk_42_method_54_code 1 (some .int), .code ⟨"java/lang/String", "coder", "()B"⟩ jdk_42_method_152_code 1 (some .byte), .code ⟨"java/lang/AbstractStringBuilder", "ensureCapacityInternal", "(I)V"⟩ jdk_68_method_9_code 3 none, .code ⟨"java/lang/AbstractStringBuilder", "putStringAt", "(ILjava/lang/String;)V"⟩ jdk_68_method_73_code 3 none, .code ⟨"java/lang/AbstractStringBuilder", "inflateIfNeededFor", "(Ljava/lang/String;)V"⟩ jdk_68_method_71_code 2 none, .code ⟨"java/lang/String", "getBytes", "([BIB)V"⟩ jdk_42_method_147_code 4 none, .code ⟨"java/lang/AbstractStringBuilder", "newCapacity", "(I)I"⟩ jdk_68_method_10_code 6 (some .int), .code ⟨"jdk/internal/util/ArraysSupport", "newLength", "(III)I"⟩ jdk_48_method_27_code 4 (some .int), .code ⟨"java/lang/Math", "max", "(II)I"⟩ jdk_29_method_65_code 2 (some .int), .code ⟨"java/util/Arrays", "copyOf", "([BI)[B"⟩ jdk_65_method_121_code 3 (some (.array .byte)), .code ⟨"java/lang/Math", "min", "(II)I"⟩ jdk_29_method_69_code 2 (some .int), .code ⟨"java/lang/StringBuilder", "toString", "()Ljava/lang/String;"⟩ jdk_67_method_42_code 1 (some (.object "java/lang/String")), .code ⟨"java/lang/String", "<init>", "(Ljava/lang/StringBuilder;)V"⟩ jdk_42_method_53_code 2 none, .code ⟨"java/lang/String", "<init>", "(Ljava/lang/AbstractStringBuilder;Ljava/lang/Void;)V"⟩ jdk_42_method_150_code 5 none, .code ⟨"java/lang/AbstractStringBuilder", "getValue", "()[B"⟩ jdk_68_method_64_code 1 (some (.array .byte)), .code ⟨"java/lang/StringBuilder", "length", "()I"⟩ jdk_67_method_93_code 1 (some .int), .code ⟨"java/lang/AbstractStringBuilder", "length", "()I"⟩ jdk_68_method_6_code 1 (some .int), .code ⟨"java/lang/AbstractStringBuilder", "isLatin1", "()Z"⟩ jdk_68_method_68_code 1 (some .boolean), .code ⟨"java/util/Arrays", "copyOfRange", "([BII)[B"⟩ jdk_65_method_132_code 3 (some (.array .byte)), .code ⟨"java/util/Arrays", "copyOfRangeByte", "([BII)[B"⟩ jdk_65_method_133_code 5 (some (.array .byte)), .code ⟨"java/util/Arrays", "checkLength", "(II)V"⟩ jdk_65_method_131_code 2 none, .code ⟨"com/example/oyster/oyster/XmlElement", "refusal", "(Ljava/lang/String;Ljava/lang/Throwable;)Lcom/example/oyster/oyster/XmlDefinitionException;"⟩ prog_28_method_3_code 3 (some (.object "com/example/oyster/oyster/XmlDefinitionException")), .code ⟨"com/example/oyster/oyster/XmlDefinitionException", "<init>", "(Ljava/lang/String;ILjava/lang/String;Ljava/lang/Throwable;)V"⟩ prog_27_method_1_code 5 none, .code ⟨"java/lang/RuntimeException", "<init>", "(Ljava/lang/String;Ljava/lang/Throwable;)V"⟩ jdk_58_method_3_code 3 none, .code ⟨"java/lang/Exception", "<init>", "(Ljava/lang/String;Ljava/lang/Throwable;)V"⟩ jdk_59_method_3_code 3 none, .code ⟨"java/lang/Throwable", "<init>", "(Ljava/lang/String;Ljava/lang/Throwable;)V"⟩ jdk_78_method_3_code 3 none, .code ⟨"java/lang/Throwable", "<init>", "()V"⟩ jdk_78_method_1_code 1 none, .code ⟨"java/lang/String", "<init>", "([C)V"⟩ jdk_42_method_3_code 2 none, .code ⟨"java/lang/String", "<init>", "([CIILjava/lang/Void;)V"⟩ jdk_42_method_149_code 6 none, .code ⟨"java/lang/StringUTF16", "compress", "([CII)[B"⟩ jdk_52_method_16_code 6 (some (.array .byte)), .code ⟨"java/lang/StringUTF16", "compress", "([CI[BII)I"⟩ jdk_52_method_21_code 7 (some .int), .code ⟨"java/lang/StringUTF16", "coderFromArrayLen", "([BI)B"⟩ jdk_52_method_15_code 2 (some .byte), .code ⟨"java/lang/Throwable", "getMessage", "()Ljava/lang/String;"⟩ jdk_78_method_6_code 1 (some (.object "java/lang/String")), .code ⟨"java/lang/String", "equals", "(Ljava/lang/Object;)Z"⟩ jdk_42_method_66_code 3 (some .boolean), .code ⟨"java/lang/StringLatin1", "equals", "([B[B)Z"⟩ jdk_43_method_13_code 3 (some .boolean), .code ⟨"java/lang/StringBuilder", "append", "(I)Ljava/lang/StringBuilder;"⟩ jdk_67_method_15_code 2 (some (.object "java/lang/StringBuilder")), .code ⟨"java/lang/AbstractStringBuilder", "append", "(I)Ljava/lang/AbstractStringBuilder;"⟩ jdk_68_method_32_code 4 (some (.object "java/lang/AbstractStringBuilder")), .code ⟨"java/lang/Integer", "stringSize", "(I)I"⟩ jdk_33_method_13_code 4 (some .int), .code ⟨"java/lang/Integer", "getChars", "(II[B)I"⟩ jdk_33_method_12_code 7 (some .int), .code ⟨"java/lang/StringUTF16", "toBytes", "(C)[B"⟩ jdk_52_method_24_code 2 (some (.array .byte)), .code ⟨"java/lang/StringUTF16", "putChar", "([BII)V"⟩ jdk_52_method_4_code 3 none, .code ⟨"java/lang/AbstractStringBuilder", "inflate", "()V"⟩ jdk_68_method_11_code 2 none, .code ⟨"java/lang/StringUTF16", "newBytesFor", "(I)[B"⟩ jdk_52_method_2_code 1 (some (.array .byte)), .code ⟨"java/lang/StringUTF16", "newBytesLength", "(I)I"⟩ jdk_52_method_3_code 1 (some .int), .code ⟨"java/lang/StringLatin1", "inflate", "([BI[BII)V"⟩ jdk_43_method_50_code 5 none, .code ⟨"java/lang/StringUTF16", "inflate", "([BI[BII)V"⟩ jdk_52_method_86_code 6 none, .code ⟨"java/lang/StringUTF16", "checkBoundsOffCount", "(II[B)V"⟩ jdk_52_method_94_code 3 none, .code ⟨"java/lang/StringUTF16", "length", "([B)I"⟩ jdk_52_method_6_code 1 (some .int), .code ⟨"java/lang/String", "checkBoundsOffCount", "(III)I"⟩ jdk_42_method_157_code 3 (some .int), .code ⟨"jdk/internal/util/Preconditions", "checkFromIndexSize", "(IIILjava/util/function/BiFunction;)I"⟩ jdk_41_method_13_code 4 (some .int), .code ⟨"java/lang/StringUTF16", "toBytes", "([CII)[B"⟩ jdk_52_method_14_code 5 (some (.array .byte)), .code ⟨"java/lang/StringUTF16", "getChar", "([BI)C"⟩ jdk_52_method_5_code 2 (some .char)]
theorem codes_eq : words1.filter isCode = codes1 := rfl
theorem w_codes : ∀ c ∈ words1.filter isCode, c.before args0 about1 = true := by
  rw [codes_eq]
  intro c hc
  simp only [codes1, List.mem_cons, List.not_mem_nil, or_false] at hc
  rcases hc with rfl | rfl | rfl | rfl | rfl | rfl | rfl | rfl | rfl | rfl | rfl | rfl | rfl | rfl | rfl | rfl | rfl | rfl | rfl | rfl | rfl | rfl | rfl | rfl | rfl | rfl | rfl | rfl | rfl | rfl | rfl | rfl | rfl | rfl | rfl | rfl | rfl | rfl | rfl | rfl | rfl | rfl | rfl | rfl | rfl | rfl | rfl | rfl | rfl | rfl | rfl | rfl | rfl | rfl | rfl | rfl | rfl | rfl | rfl | rfl | rfl | rfl | rfl | rfl | rfl
  · exact w_c0
  · exact w_c1
  · exact w_c2
  · exact w_c3
  · exact w_c4
  · exact w_c5
  · exact w_c6
  · exact w_c7
  · exact w_c8
  · exact w_c9
  · exact w_c10
  · exact w_c11
  · exact w_c12
  · exact w_c13
  · exact w_c14
  · exact w_c15
  · exact w_c16
  · exact w_c17
  · exact w_c18
  · exact w_c19
  · exact w_c20
  · exact w_c21
  · exact w_c22
  · exact w_c23
  · exact w_c24
  · exact w_c25
  · exact w_c26
  · exact w_c27
  · exact w_c28
  · exact w_c29
  · exact w_c30
  · exact w_c31
  · exact w_c32
  · exact w_c33
  · exact w_c34
  · exact w_c35
  · exact w_c36
  · exact w_c37
  · exact w_c38
  · exact w_c39
  · exact w_c40
  · exact w_c41
  · exact w_c42
  · exact w_c43
  · exact w_c44
  · exact w_c45
  · exact w_c46
  · exact w_c47
  · exact w_c48
  · exact w_c49
  · exact w_c50
  · exact w_c51
  · exact w_c52
  · exact w_c53
  · exact w_c54
  · exact w_c55
  · exact w_c56
  · exact w_c57
  · exact w_c58
  · exact w_c59
  · exact w_c60
  · exact w_c61
  · exact w_c62
  · exact w_c63
  · exact w_c64
theorem w_t1 : (words1.take 24).all (fun c => isCode c || c.before args0 about1) = true := by decide +kernel
theorem w_t2 : ((words1.drop 24).take 24).all (fun c => isCode c || c.before args0 about1) = true := by decide +kernel
theorem w_t3 : (((words1.drop 24).drop 24).take 24).all (fun c => isCode c || c.before args0 about1) = true := by decide +kernel
theorem w_t4 : ((((words1.drop 24).drop 24).drop 24).take 24).all (fun c => isCode c || c.before args0 about1) = true := by decide +kernel
theorem w_t5 : (((((words1.drop 24).drop 24).drop 24).drop 24).take 24).all (fun c => isCode c || c.before args0 about1) = true := by decide +kernel
theorem w_t6 : ((((((words1.drop 24).drop 24).drop 24).drop 24).drop 24).take 24).all (fun c => isCode c || c.before args0 about1) = true := by decide +kernel
theorem w_t7 : (((((((words1.drop 24).drop 24).drop 24).drop 24).drop 24).drop 24).take 24).all (fun c => isCode c || c.before args0 about1) = true := by decide +kernel
theorem w_t8 : ((((((((words1.drop 24).drop 24).drop 24).drop 24).drop 24).drop 24).drop 24).take 24).all (fun c => isCode c || c.before args0 about1) = true := by decide +kernel
theorem w_t9 : (((((((((words1.drop 24).drop 24).drop 24).drop 24).drop 24).drop 24).drop 24).drop 24).take 24).all (fun c => isCode c || c.before args0 about1) = true := by decide +kernel
theorem w_t10 : ((((((((((words1.drop 24).drop 24).drop 24).drop 24).drop 24).drop 24).drop 24).drop 24).drop 24).take 24).all (fun c => isCode c || c.before args0 about1) = true := by decide +kernel
theorem w_t11 : (((((((((((words1.drop 24).drop 24).drop 24).drop 24).drop 24).drop 24).drop 24).drop 24).drop 24).drop 24).take 24).all (fun c => isCode c || c.before args0 about1) = true := by decide +kernel
theorem w_t12 : ((((((((((((words1.drop 24).drop 24).drop 24).drop 24).drop 24).drop 24).drop 24).drop 24).drop 24).drop 24).drop 24).take 24).all (fun c => isCode c || c.before args0 about1) = true := by decide +kernel
theorem w_t13 : (((((((((((((words1.drop 24).drop 24).drop 24).drop 24).drop 24).drop 24).drop 24).drop 24).drop 24).drop 24).drop 24).drop 24).take 24).all (fun c => isCode c || c.before args0 about1) = true := by decide +kernel
theorem w_t14 : ((((((((((((((words1.drop 24).drop 24).drop 24).drop 24).drop 24).drop 24).drop 24).drop 24).drop 24).drop 24).drop 24).drop 24).drop 24).take 24).all (fun c => isCode c || c.before args0 about1) = true := by decide +kernel
theorem w_t15 : (((((((((((((((words1.drop 24).drop 24).drop 24).drop 24).drop 24).drop 24).drop 24).drop 24).drop 24).drop 24).drop 24).drop 24).drop 24).drop 24).take 24).all (fun c => isCode c || c.before args0 about1) = true := by decide +kernel
theorem w_t16 : (((((((((((((((words1.drop 24).drop 24).drop 24).drop 24).drop 24).drop 24).drop 24).drop 24).drop 24).drop 24).drop 24).drop 24).drop 24).drop 24).drop 24).all (fun c => isCode c || c.before args0 about1) = true := by decide +kernel
theorem w_tables : (allAtoms (Jvm.Cond.code x code maxLocals ret :: tables_1)).before args0 about1 = true := by
  rw [allAtoms_all]
  show words1.all (fun c => c.before args0 about1) = true
  refine all_split ?_ w_codes
  rw [← List.take_append_drop 24 words1, List.all_append, w_t1, ← List.take_append_drop 24 (words1.drop 24), List.all_append, w_t2, ← List.take_append_drop 24 ((words1.drop 24).drop 24), List.all_append, w_t3, ← List.take_append_drop 24 (((words1.drop 24).drop 24).drop 24), List.all_append, w_t4, ← List.take_append_drop 24 ((((words1.drop 24).drop 24).drop 24).drop 24), List.all_append, w_t5, ← List.take_append_drop 24 (((((words1.drop 24).drop 24).drop 24).drop 24).drop 24), List.all_append, w_t6, ← List.take_append_drop 24 ((((((words1.drop 24).drop 24).drop 24).drop 24).drop 24).drop 24), List.all_append, w_t7, ← List.take_append_drop 24 (((((((words1.drop 24).drop 24).drop 24).drop 24).drop 24).drop 24).drop 24), List.all_append, w_t8, ← List.take_append_drop 24 ((((((((words1.drop 24).drop 24).drop 24).drop 24).drop 24).drop 24).drop 24).drop 24), List.all_append, w_t9, ← List.take_append_drop 24 (((((((((words1.drop 24).drop 24).drop 24).drop 24).drop 24).drop 24).drop 24).drop 24).drop 24), List.all_append, w_t10, ← List.take_append_drop 24 ((((((((((words1.drop 24).drop 24).drop 24).drop 24).drop 24).drop 24).drop 24).drop 24).drop 24).drop 24), List.all_append, w_t11, ← List.take_append_drop 24 (((((((((((words1.drop 24).drop 24).drop 24).drop 24).drop 24).drop 24).drop 24).drop 24).drop 24).drop 24).drop 24), List.all_append, w_t12, ← List.take_append_drop 24 ((((((((((((words1.drop 24).drop 24).drop 24).drop 24).drop 24).drop 24).drop 24).drop 24).drop 24).drop 24).drop 24).drop 24), List.all_append, w_t13, ← List.take_append_drop 24 (((((((((((((words1.drop 24).drop 24).drop 24).drop 24).drop 24).drop 24).drop 24).drop 24).drop 24).drop 24).drop 24).drop 24).drop 24), List.all_append, w_t14, ← List.take_append_drop 24 ((((((((((((((words1.drop 24).drop 24).drop 24).drop 24).drop 24).drop 24).drop 24).drop 24).drop 24).drop 24).drop 24).drop 24).drop 24).drop 24), List.all_append, w_t15, w_t16]
  rfl
theorem w_rest : rest_1_c.before args0 about1 = true := by decide +kernel
theorem w_case : (Jvm.Cond.and given_1 narrow_1).before args0 about1 = true := by decide +kernel
theorem w_consts : constsHeld consts_1 about1 := Jvm.Lit.constsHeldB_iff.mp (by decide +kernel)
theorem w_applies : (headSpec (Jvm.Cond.code x code maxLocals ret :: tables_1) room_1).applies x e0.platform about1 = true :=
  (Spec.applies_iff w_frames).mpr ⟨w_running, w_runnable, w_alone, w_named, w_hears, w_ripe, w_room, w_tables⟩
theorem atStart : AtStart classFile x code maxLocals ret World_1 tables_1 room_1 Calls_1 rest_1 Pre_1 launch0 p0 e0 about1 theMethod args0 below0 :=
  ⟨lists_1, trivial, launch0.admits_env _ _ _, launch0.least_env, fairChoices_fair.cas, fairChoices_fair.clock, w_frames, w_args, w_heap, w_applies, ⟨(by decide +kernel : framesKnown about1 = true), ⟨(by decide +kernel : tablesKnown about1 = true), ⟨w_consts, trivial⟩⟩⟩, w_rest, w_case⟩
end start1
theorem witness_1 : WitnessClaimed_1 := ⟨start1.p0, start1.e0, start1.about1, start1.theMethod, start1.args0, start1.below0, start1.atStart⟩
end Jvm.Pilot.@@N@@
