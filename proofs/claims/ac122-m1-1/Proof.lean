import JvmDerived
import JvmDerived.Pilot.@@N@@Statement
import JvmDerived.Pilot.@@N@@Code
set_option linter.unusedVariables false
set_option linter.unusedSimpArgs false
@@BLOCK:NumsL.lean.txt@@
namespace Jvm.Pilot.@@N@@
open Jvm Jvm.ClassFile Sem Op Lib Jvm.Free Jvm.Stand Jvm.LawKit Jvm.RoadKit Bundle Jvm.Pilot.@@N@@.Jvm.D
/-! own layer: the run from here ends, and Q holds of what it returned, of the heap and of the places written -/
def own_End (p : Program) (e : Env) (below : List Frame) (P : State → Outcome → Prop) (T : State) (f : JFrame) : Prop := ∃ s₂ o, Steps p.tables e below (T.setTop f) s₂ ∧ P s₂ o
def own_P (below : List Frame) (s : State) (Q : Option Value → Heap → List Loc → Prop) (kc ns : Nat) : State → Outcome → Prop := fun s₂ o => s₂.status = .running ∧ Ended s₂ below o ∧ ∃ v L, o = .returned v ∧ Q v s₂.heap L ∧ FrameEnd s o s₂ L kc ns
def own_Met (l : Launch) (Z : State) (y : MethodName) (bytes : ByteArray) (maxL : Nat) (ret : Option FieldType) (ws : List Jvm.Cond) (rm : Room) (as' : Array Value) (h : Heap) (Q : Option Value → Heap → List Loc → Prop) : Prop :=
  MetFree l y (head1 (Jvm.Cond.code y bytes maxL ret :: ws) rm) (fun a U => a = as' ∧ Z.Warmed39 U.vm ∧ U.heap = h) (fun _ _ _ _ _ => True) (fun _ U o U' => ∃ v L, o = .returned v ∧ Q v U'.heap L ∧ FrameEnd U o U' L rm.cells rm.slots)
section OwnSteps
variable {p : Program} {l : Launch} {e : Env} {R : Room} {s : State} {m : MethodId} {args : Array Value} {below : List Frame} {meth : Method} {c : Code} {T : State} {locs : List Loc} {cells slots : Nat} {P : State → Outcome → Prop} {Q : Option Value → Heap → List Loc → Prop} {kc ns : Nat} {Z : State} {a0 : Array Value} {h : Heap} {f : JFrame}
theorem own_go {T' : State} {f' : JFrame} (st : ∀ t, Steps p.tables e below (T'.setTop f') t → Steps p.tables e below (T.setTop f) t) (k : own_End p e below P T' f') : own_End p e below P T f := by
  obtain ⟨s₂, o, h1, h2⟩ := k
  exact ⟨s₂, o, st _ h1, h2⟩
theorem own_via {T' : State} {f' : JFrame} (st : Steps p.tables e below (T.setTop f) (T'.setTop f')) (k : own_End p e below P T' f') : own_End p e below P T f := own_go (fun _ h => st.trans h) k
theorem own_exf (h : False) : own_End p e below P T f := h.elim
theorem own_body {y : MethodName} {bytes : ByteArray} {maxL : Nat} {ret : Option FieldType} {ws : List Jvm.Cond} {rm : Room} {as' : Array Value} (hpl : plainFor y = true)
    (body : ∀ (p : Program) (e : Env) (s : State) (m : MethodId) (below : List Frame) (meth : Method) (c : Code) (s₁ : State), p.tables.exec = Jvm.exec → Z.Warmed39 s.vm → c.code = bytes → c.maxLocals = maxL → s.vm.findClass y.cls = some m.cls → meth.name = y.name → meth.sig.returnType = ret → meth.locks = false →
      Stand p l e rm s m as' below meth c s₁ [] 0 0 → s₁.heap = h → own_End p e below (own_P below s Q rm.cells rm.slots) s₁ (entryFrame m as' maxL)) : own_Met l Z y bytes maxL ret ws rm as' h Q := by
  refine MetFree.of_bodySF hpl hisR ?_
  intro p e s m args below meth c s₁ Bd hml0 hP hK
  obtain ⟨rfl, hZ, hh⟩ := hP
  exact body p e s m below meth c s₁ Bd.exec hZ Bd.bytes hml0 (findClass_of_methodNamed Bd.named) (name_of_methodNamed Bd.named Bd.method).1 Bd.returns Bd.notSynchronized (Stand.of_body Bd) (by rw [← hh, Bd.state]; rfl)
theorem own_cast {g g' : JFrame} (q : g = g') (k : own_End p e below P T g') : own_End p e below P T g := q ▸ k
theorem own_ret (X : Stand p l e R s m args below meth c T locs cells slots) (hP : P = own_P below s Q kc ns) (hlk : meth.locks = false) (eT : T.heap = h) {v : Option Value} (hv : meth.sig.returnType = none → v = none) (hk : cells ≤ kc) (hn : slots ≤ ns) (hQ : Q v h locs)
    (st : ∀ fs, (∀ (f : JFrame) (acts : List Action), f.method = m → f.locked = none → f.entered = [] → (doReturn e (T.setTop f) acts v).1 = T.setFrames fs) → Steps p.tables e below (T.setTop f) (T.setFrames fs)) : own_End p e below P T f := by
  obtain ⟨fs, hr, hrun, hended, hW, hsame⟩ := X.leave hv hlk
  subst hP
  exact ⟨_, _, st fs hr, hrun, hended, _, _, rfl, (eT ▸ hQ : Q v T.heap locs), ⟨_, rfl⟩, hW, hsame.mono hk hn⟩
theorem own_retV (X : Stand p l e R s m args below meth c T locs cells slots) (hP : P = own_P below s Q kc ns) (hx : p.tables.exec = Jvm.exec) (hlk : meth.locks = false) (eT : T.heap = h) {pc : Nat} {Ls : Array Slot} (hret : meth.sig.returnType = none) (hd : decode c.code pc = .ok (.return_, 1)) (hk : cells ≤ kc) (hn : slots ≤ ns) (hQ : Q none h locs) :
    own_End p e below P T (mkF m pc Ls []) := own_ret X hP hlk eT (fun _ => rfl) hk hn hQ fun _ hr => X.returnOut hx hret hd hr
theorem own_retI (X : Stand p l e R s m args below meth c T locs cells slots) (hP : P = own_P below s Q kc ns) (hx : p.tables.exec = Jvm.exec) (hlk : meth.locks = false) (eT : T.heap = h) {pc : Nat} {Ls : Array Slot} {z : Int32} {rest : List Value} (hret : meth.sig.returnType = some .int) (hd : decode c.code pc = .ok (.ireturn, 1)) (hk : cells ≤ kc) (hn : slots ≤ ns) (hQ : Q (some (.int z)) h locs) :
    own_End p e below P T (mkF m pc Ls (.int z :: rest)) := own_ret X hP hlk eT (fun h => by rw [hret] at h; cases h) hk hn hQ fun fs hr => retOut X hx hret rfl (Or.inl ⟨rfl, Or.inl rfl, z, rfl⟩) hd hr
theorem own_retN (X : Stand p l e R s m args below meth c T locs cells slots) (hP : P = own_P below s Q kc ns) (hx : p.tables.exec = Jvm.exec) (hlk : meth.locks = false) (eT : T.heap = h) {pc : Nat} {Ls : Array Slot} {z : Int32} {rest : List Value} {t : FieldType} (hret : meth.sig.returnType = some t) (ht : t = .boolean ∨ t = .byte ∨ t = .char ∨ t = .short) (hd : decode c.code pc = .ok (.ireturn, 1)) (hk : cells ≤ kc) (hn : slots ≤ ns) {z' : Int32} (hz : nar t z = z') (hQ : Q (some (.int z')) h locs) :
    own_End p e below P T (mkF m pc Ls (.int z :: rest)) := by
  subst hz
  exact own_ret X hP hlk eT (fun h => by rw [hret] at h; cases h) hk hn hQ fun fs hr => retN X hx hret ht hd hr
theorem own_retJ (X : Stand p l e R s m args below meth c T locs cells slots) (hP : P = own_P below s Q kc ns) (hx : p.tables.exec = Jvm.exec) (hlk : meth.locks = false) (eT : T.heap = h) {pc : Nat} {Ls : Array Slot} {z : Int64} {rest : List Value} (hret : meth.sig.returnType = some .long) (hd : decode c.code pc = .ok (.lreturn, 1)) (hk : cells ≤ kc) (hn : slots ≤ ns) (hQ : Q (some (.long z)) h locs) :
    own_End p e below P T (mkF m pc Ls (.long z :: rest)) := own_ret X hP hlk eT (fun h => by rw [hret] at h; cases h) hk hn hQ fun fs hr => retOut X hx hret rfl (Or.inr (Or.inl ⟨rfl, rfl, z, rfl⟩)) hd hr
theorem own_retA (X : Stand p l e R s m args below meth c T locs cells slots) (hP : P = own_P below s Q kc ns) (hx : p.tables.exec = Jvm.exec) (hlk : meth.locks = false) (eT : T.heap = h) {pc : Nat} {Ls : Array Slot} {w : Value} {rest : List Value} {t : FieldType} (hret : meth.sig.returnType = some t) (ht : t.isReference = true) (hw : w.isRef = true) (hnr : narrow t w = w) (hd : decode c.code pc = .ok (.areturn, 1)) (hk : cells ≤ kc) (hn : slots ≤ ns) (hQ : Q (some w) h locs) :
    own_End p e below P T (mkF m pc Ls (w :: rest)) := own_ret X hP hlk eT (fun h => by rw [hret] at h; cases h) hk hn hQ fun fs hr => retOut X hx hret hnr (Or.inr (Or.inr (Or.inr (Or.inr ⟨rfl, ht, hw⟩)))) hd hr
theorem own_callS (X : Stand p l e R s m args below meth c T locs cells slots) (hx : p.tables.exec = Jvm.exec) (hZ : Z.Warmed39 s.vm) {own : String} (hown : s.vm.findClass own = some m.cls) (eT : T.heap = h) {index : Nat} {y : MethodName} {bytes : ByteArray} {maxL : Nat} {ret : Option FieldType} {rm : Room} {as' : Array Value} {Q' : Option Value → Heap → List Loc → Prop}
    (w1 : (Cond.methodLink own index y).before a0 Z = true) (w2 : (Cond.static y).before a0 Z = true) (w3 : (Cond.initialized y.cls).before a0 Z = true) (w4 : (Cond.code y bytes maxL ret).before a0 Z = true) (hy : y.cls ≠ "java/lang/invoke/MethodHandle" ∧ y.cls ≠ "java/lang/invoke/VarHandle")
    (hM : own_Met l Z y bytes maxL ret [] rm as' h Q') {g : JFrame} (hg : g.method = m) (hsize : g.locals.size = c.maxLocals) {argsL rest : List Value} (hlen : ∀ sig, parseMethodDescriptor y.desc = some sig → argsL.length = sig.parameters.length) (hstack : g.stack = argsL.reverse ++ rest) (has : argsL.toArray = as') {W : Nat} (hW : 2 * g.monitorRoom + (rest.map fun v => v.category).sum ≤ W) (hdg : decode c.code g.pc = .ok (.invokestatic index, 3))
    (hf : rm.frames + 1 ≤ R.frames) (hl : W + (maxL + 11) + rm.locals ≤ R.locals) (hc : cells + rm.cells ≤ R.cells) (hs : slots + rm.slots ≤ R.slots)
    (k : ∀ v T' L, Stand p l e R s m args below meth c T' (locs ++ L) (cells + rm.cells) (slots + rm.slots) → Q' v T'.heap L → own_End p e below P T' { g with pc := g.pc + 3, stack := v.toList ++ rest }) : own_End p e below P T g := by
  obtain ⟨v, vm1, ⟨T', L1, k1, n1⟩, -, X', ⟨L, hQ, l1, y1, z1⟩, st⟩ := Jvm.LawKit.callS X hx (y := y) hown (mvT hZ w1) (mvT hZ w2) (mvT hZ w3) (mvT hZ w4) hy (backOf (W := W) hM hZ w4 w3 hf hl) hg hsize hlen hstack hW hdg (fun _ _ => ⟨has, eT, hc, hs⟩)
  dsimp only [Pt.U, Pt.locs, Pt.cells, Pt.slots] at X' l1 y1 z1 st hQ
  subst l1 y1 z1
  exact own_go st (k v T' L X' hQ)
theorem own_callC (X : Stand p l e R s m args below meth c T locs cells slots) (hx : p.tables.exec = Jvm.exec) (hZ : Z.Warmed39 s.vm) {own : String} (hown : s.vm.findClass own = some m.cls) (eT : T.heap = h) {index : Nat} {y : MethodName} {bytes : ByteArray} {maxL : Nat} {rm : Room} {as' : Array Value} {Q' : Option Value → Heap → List Loc → Prop}
    (hyi : y.name = "<init>") (w1 : (Cond.methodLink own index y).before a0 Z = true) (w2 : (Cond.instanceMethod y).before a0 Z = true) (w3 : (Cond.initialized y.cls).before a0 Z = true) (w4 : (Cond.code y bytes maxL none).before a0 Z = true) (hy : y.cls ≠ "java/lang/invoke/MethodHandle" ∧ y.cls ≠ "java/lang/invoke/VarHandle")
    (hM : own_Met l Z y bytes maxL none [] rm as' h Q') {g : JFrame} (hg : g.method = m) (hsize : g.locals.size = c.maxLocals) {a : Addr} {argsL rest : List Value} (hlen : ∀ sig, parseMethodDescriptor y.desc = some sig → argsL.length = sig.parameters.length) (hstack : g.stack = argsL.reverse ++ .ref a :: rest) (has : (.ref a :: argsL).toArray = as') {W : Nat} (hW : 2 * g.monitorRoom + (rest.map fun v => v.category).sum ≤ W) (hdg : decode c.code g.pc = .ok (.invokespecial index, 3))
    (hf : rm.frames + 1 ≤ R.frames) (hl : W + (maxL + 11) + rm.locals ≤ R.locals) (hc : cells + rm.cells ≤ R.cells) (hs : slots + rm.slots ≤ R.slots)
    (k : ∀ v T' L, Stand p l e R s m args below meth c T' (locs ++ L) (cells + rm.cells) (slots + rm.slots) → Q' v T'.heap L → own_End p e below P T' { g with pc := g.pc + 3, stack := v.toList ++ rest }) : own_End p e below P T g := by
  obtain ⟨v, vm1, ⟨T', L1, k1, n1⟩, -, X', ⟨L, hQ, l1, y1, z1⟩, st⟩ := X.specialBack hx (y := y) hyi hown (mvT hZ w1) (mvT hZ w2) (mvT hZ w4) hy (backOf (W := W) hM hZ w4 w3 hf hl) hg hsize (Steps.refl _) (a := a) hlen hstack hW hdg (fun _ _ => ⟨has, eT, hc, hs⟩)
  dsimp only [Pt.U, Pt.locs, Pt.cells, Pt.slots] at X' l1 y1 z1 st hQ
  subst l1 y1 z1
  exact own_via st (k v T' L X' hQ)
theorem own_callV (X : Stand p l e R s m args below meth c T locs cells slots) (hx : p.tables.exec = Jvm.exec) (hZ : Z.Warmed39 s.vm) {own : String} (hown : s.vm.findClass own = some m.cls) (eT : T.heap = h) {index : Nat} {C : String} {y z : MethodName} {bytes : ByteArray} {maxL : Nat} {ret : Option FieldType} {rm : Room} {as' : Array Value} {Q' : Option Value → Heap → List Loc → Prop}
    (w1 : (Cond.methodLink own index y).before a0 Z = true) (wd : (Cond.declares y).before a0 Z = true) (hnf : NotFace s y) (wsel : (Cond.selects C y z).before a0 Z = true) (w2 : (Cond.instanceMethod z).before a0 Z = true) (w3 : (Cond.initialized z.cls).before a0 Z = true) (w4 : (Cond.code z bytes maxL ret).before a0 Z = true) (hy : y.cls ≠ "java/lang/invoke/MethodHandle" ∧ y.cls ≠ "java/lang/invoke/VarHandle")
    (hM : own_Met l Z z bytes maxL ret [] rm as' h Q') {a : Addr} (E : Exa Z h a C) {g : JFrame} (hg : g.method = m) (hsize : g.locals.size = c.maxLocals) {argsL rest : List Value} (hlen : ∀ sig, parseMethodDescriptor y.desc = some sig → argsL.length = sig.parameters.length) (hstack : g.stack = argsL.reverse ++ .ref a :: rest) (has : (.ref a :: argsL).toArray = as') {W : Nat} (hW : 2 * g.monitorRoom + (rest.map fun v => v.category).sum ≤ W) (hdg : decode c.code g.pc = .ok (.invokevirtual index, 3))
    (hf : rm.frames + 1 ≤ R.frames) (hl : W + (maxL + 11) + rm.locals ≤ R.locals) (hc : cells + rm.cells ≤ R.cells) (hs : slots + rm.slots ≤ R.slots)
    (k : ∀ v T' L, Stand p l e R s m args below meth c T' (locs ++ L) (cells + rm.cells) (slots + rm.slots) → Q' v T'.heap L → own_End p e below P T' { g with pc := g.pc + 3, stack := v.toList ++ rest }) : own_End p e below P T g := by
  obtain ⟨cB, kB, q1, q2, q3⟩ := isOf (T := T) hZ eT E
  obtain ⟨v, vm1, ⟨T', L1, k1, n1⟩, -, X', ⟨L, hQ, l1, y1, z1⟩, st⟩ := X.virtualBack hx (y := y) (z := z) hown (mvT hZ w1) (mvT hZ wd) hnf (mvT hZ wsel) (mvT hZ w2) hy (backOf (W := W) hM hZ w4 w3 hf hl) q1 q3 hg hsize (Steps.refl _) hlen hstack hW hdg (fun _ _ => ⟨has, eT, hc, hs⟩)
  dsimp only [Pt.U, Pt.locs, Pt.cells, Pt.slots] at X' l1 y1 z1 st hQ
  subst l1 y1 z1
  exact own_via st (k v T' L X' hQ)
theorem own_selP {C : String} {x' y y' : MethodName} (wz : (Cond.selects C x' y').before args s = true) (hc : y'.cls = y.cls) (hpriv : s.PrivateAt y) (hinst : (Cond.instanceMethod y).before args s = true) (hy : y.cls ≠ "java/lang/invoke/MethodHandle" ∧ y.cls ≠ "java/lang/invoke/VarHandle") : (Cond.selects y.cls y y).before args s = true := by
  obtain ⟨_, _, m2, -, -, q3, -, kP, hkP, hkPi⟩ := Cond.selects_spec wz
  exact selects_self_of_private (by rw [← hc]; exact findClass_of_methodNamed q3) hkP hkPi hpriv hinst hy
theorem own_callP (X : Stand p l e R s m args below meth c T locs cells slots) (hx : p.tables.exec = Jvm.exec) (hZ : Z.Warmed39 s.vm) {own : String} (hown : s.vm.findClass own = some m.cls) (eT : T.heap = h) {index : Nat} {y : MethodName} {bytes : ByteArray} {maxL : Nat} {ret : Option FieldType} {rm : Room} {as' : Array Value} {Q' : Option Value → Heap → List Loc → Prop}
    (w1 : (Cond.methodLink own index y).before a0 Z = true) (w2 : (Cond.instanceMethod y).before a0 Z = true) (wsel : (Cond.selects y.cls y y).before args s = true) (wp : (Cond.privateMethod y).before a0 Z = true) (w3 : (Cond.initialized y.cls).before a0 Z = true) (w4 : (Cond.code y bytes maxL ret).before a0 Z = true) (hy : y.cls ≠ "java/lang/invoke/MethodHandle" ∧ y.cls ≠ "java/lang/invoke/VarHandle")
    (hM : own_Met l Z y bytes maxL ret [] rm as' h Q') {C : String} {a : Addr} (E : Exa Z h a C) {g : JFrame} (hg : g.method = m) (hsize : g.locals.size = c.maxLocals) {argsL rest : List Value} (hlen : ∀ sig, parseMethodDescriptor y.desc = some sig → argsL.length = sig.parameters.length) (hstack : g.stack = argsL.reverse ++ .ref a :: rest) (has : (.ref a :: argsL).toArray = as') {W : Nat} (hW : 2 * g.monitorRoom + (rest.map fun v => v.category).sum ≤ W) (hdg : decode c.code g.pc = .ok (.invokevirtual index, 3))
    (hf : rm.frames + 1 ≤ R.frames) (hl : W + (maxL + 11) + rm.locals ≤ R.locals) (hc : cells + rm.cells ≤ R.cells) (hs : slots + rm.slots ≤ R.slots)
    (k : ∀ v T' L, Stand p l e R s m args below meth c T' (locs ++ L) (cells + rm.cells) (slots + rm.slots) → Q' v T'.heap L → own_End p e below P T' { g with pc := g.pc + 3, stack := v.toList ++ rest }) : own_End p e below P T g := by
  obtain ⟨cq, q1, q2⟩ := E.cell
  obtain ⟨v, vm1, ⟨T', L1, k1, n1⟩, -, X', ⟨L, hQ, l1, y1, z1⟩, st⟩ := X.privateBack hx (y := y) hown (mvT hZ w1) (mvT hZ w2) wsel (Cond.privateMethod_at (mvP hZ wp (args := #[]))) (mvT hZ w4) hy (backOf (W := W) hM hZ w4 w3 hf hl) hg hsize (Steps.refl _) (a := a) (by rw [eT]; exact q1) q2 hlen hstack hW hdg (fun _ _ => ⟨has, eT, hc, hs⟩)
  dsimp only [Pt.U, Pt.locs, Pt.cells, Pt.slots] at X' l1 y1 z1 st hQ
  subst l1 y1 z1
  exact own_via st (k v T' L X' hQ)
end OwnSteps
/-! own: a truth as an int; comparisons of longs -/
def own_z (P : Prop) [Decidable P] : Int32 := if P then 1 else 0
section OwnTruth
variable {P : Prop} [Decidable P] {x y : Int64}
theorem own_z_t (h : P) : own_z P = 1 := if_pos h
theorem own_z_f (h : ¬ P) : own_z P = 0 := if_neg h
theorem own_z_nar : nar .boolean (own_z P) = own_z P := by unfold own_z; split <;> decide
theorem own_z_congr {P' : Prop} [Decidable P'] (h : P ↔ P') : own_z P = own_z P' := by unfold own_z; by_cases q : P <;> simp [q, h.symm, h.mp] <;> simp_all
theorem own_z_inj {P' : Prop} [Decidable P'] (h : own_z P = own_z P') : P ↔ P' := by
  unfold own_z at h; by_cases q : P <;> by_cases q' : P' <;> simp_all
theorem own_zY_eq (h : ¬ P) : ifCond.holds .eq (own_z P) = true := by rw [own_z_f h]; rfl
theorem own_zN_eq (h : P) : ifCond.holds .eq (own_z P) = false := by rw [own_z_t h]; rfl
theorem own_zY_ne (h : P) : ifCond.holds .ne (own_z P) = true := by rw [own_z_t h]; rfl
theorem own_zN_ne (h : ¬ P) : ifCond.holds .ne (own_z P) = false := by rw [own_z_f h]; rfl
theorem own_lY_lt (h : x < y) : ifCond.holds .lt (lcmpW x y) = true := (if0 _ _).trans (tlt ((lw_lt x y).mpr h)).1
theorem own_lN_lt (h : ¬ x < y) : ifCond.holds .lt (lcmpW x y) = false := (if0 _ _).trans (flt (mt (lw_lt x y).mp h)).1
theorem own_lY_ge (h : ¬ x < y) : ifCond.holds .ge (lcmpW x y) = true := (if0 _ _).trans (flt (mt (lw_lt x y).mp h)).2.1
theorem own_lN_ge (h : x < y) : ifCond.holds .ge (lcmpW x y) = false := (if0 _ _).trans (tlt ((lw_lt x y).mpr h)).2.1
theorem own_lY_gt (h : y < x) : ifCond.holds .gt (lcmpW x y) = true := (if0 _ _).trans (tlt ((lw_gt x y).mpr h)).2.2.1
theorem own_lN_gt (h : ¬ y < x) : ifCond.holds .gt (lcmpW x y) = false := (if0 _ _).trans (flt (mt (lw_gt x y).mp h)).2.2.1
theorem own_lY_le (h : ¬ y < x) : ifCond.holds .le (lcmpW x y) = true := (if0 _ _).trans (flt (mt (lw_gt x y).mp h)).2.2.2
theorem own_lN_le (h : y < x) : ifCond.holds .le (lcmpW x y) = false := (if0 _ _).trans (tlt ((lw_gt x y).mpr h)).2.2.2
theorem own_lY_eq (h : x = y) : ifCond.holds .eq (lcmpW x y) = true := (if0 _ _).trans (teq ((lw_eq x y).mpr h)).1
theorem own_lN_eq (h : ¬ x = y) : ifCond.holds .eq (lcmpW x y) = false := (if0 _ _).trans (feq (mt (lw_eq x y).mp h)).1
theorem own_lY_ne (h : ¬ x = y) : ifCond.holds .ne (lcmpW x y) = true := (if0 _ _).trans (feq (mt (lw_eq x y).mp h)).2
theorem own_lN_ne (h : x = y) : ifCond.holds .ne (lcmpW x y) = false := (if0 _ _).trans (teq ((lw_eq x y).mpr h)).2
end OwnTruth
/-! own: a callee that writes nothing -/
def own_Pq (val : Option Value) (h : Heap) : Option Value → Heap → List Loc → Prop := fun v h' L => v = val ∧ L = [] ∧ h' = h
section OwnPure
variable {p : Program} {l : Launch} {e : Env} {R : Room} {s : State} {m : MethodId} {args : Array Value} {below : List Frame} {meth : Method} {c : Code} {T : State} {locs : List Loc} {cells slots : Nat} {P : State → Outcome → Prop} {Q : Option Value → Heap → List Loc → Prop} {kc ns : Nat} {Z : State} {a0 : Array Value} {h : Heap} {f : JFrame}
theorem own_callSp (X : Stand p l e R s m args below meth c T locs cells slots) (hx : p.tables.exec = Jvm.exec) (hZ : Z.Warmed39 s.vm) {own : String} (hown : s.vm.findClass own = some m.cls) (eT : T.heap = h) {index : Nat} {y : MethodName} {bytes : ByteArray} {maxL : Nat} {ret : Option FieldType} {fr lo : Nat} {as' : Array Value} {val : Option Value}
    (w1 : (Cond.methodLink own index y).before a0 Z = true) (w2 : (Cond.static y).before a0 Z = true) (w3 : (Cond.initialized y.cls).before a0 Z = true) (w4 : (Cond.code y bytes maxL ret).before a0 Z = true) (hy : y.cls ≠ "java/lang/invoke/MethodHandle" ∧ y.cls ≠ "java/lang/invoke/VarHandle")
    (hM : own_Met l Z y bytes maxL ret [] { frames := fr, cells := 0, slots := 0, locals := lo } as' h (own_Pq val h)) {g : JFrame} (hg : g.method = m) (hsize : g.locals.size = c.maxLocals) {argsL rest : List Value} (hlen : ∀ sig, parseMethodDescriptor y.desc = some sig → argsL.length = sig.parameters.length) (hstack : g.stack = argsL.reverse ++ rest) (has : argsL.toArray = as') {W : Nat} (hW : 2 * g.monitorRoom + (rest.map fun v => v.category).sum ≤ W) (hdg : decode c.code g.pc = .ok (.invokestatic index, 3))
    (hf : fr + 1 ≤ R.frames) (hl : W + (maxL + 11) + lo ≤ R.locals) (hc : cells ≤ R.cells) (hs : slots ≤ R.slots)
    (k : ∀ T', Stand p l e R s m args below meth c T' locs cells slots → T'.heap = h → own_End p e below P T' { g with pc := g.pc + 3, stack := val.toList ++ rest }) : own_End p e below P T g :=
  own_callS X hx hZ hown eT w1 w2 w3 w4 hy hM hg hsize hlen hstack has hW hdg hf hl hc hs fun v T' L X' ⟨q1, q2, q3⟩ => by
    subst q1 q2
    rw [List.append_nil] at X'
    exact k T' X' q3
theorem own_callCp (X : Stand p l e R s m args below meth c T locs cells slots) (hx : p.tables.exec = Jvm.exec) (hZ : Z.Warmed39 s.vm) {own : String} (hown : s.vm.findClass own = some m.cls) (eT : T.heap = h) {index : Nat} {y : MethodName} {bytes : ByteArray} {maxL : Nat} {fr lo : Nat} {as' : Array Value} {val : Option Value}
    (hyi : y.name = "<init>") (w1 : (Cond.methodLink own index y).before a0 Z = true) (w2 : (Cond.instanceMethod y).before a0 Z = true) (w3 : (Cond.initialized y.cls).before a0 Z = true) (w4 : (Cond.code y bytes maxL none).before a0 Z = true) (hy : y.cls ≠ "java/lang/invoke/MethodHandle" ∧ y.cls ≠ "java/lang/invoke/VarHandle")
    (hM : own_Met l Z y bytes maxL none [] { frames := fr, cells := 0, slots := 0, locals := lo } as' h (own_Pq val h)) {g : JFrame} (hg : g.method = m) (hsize : g.locals.size = c.maxLocals) {a : Addr} {argsL rest : List Value} (hlen : ∀ sig, parseMethodDescriptor y.desc = some sig → argsL.length = sig.parameters.length) (hstack : g.stack = argsL.reverse ++ .ref a :: rest) (has : (.ref a :: argsL).toArray = as') {W : Nat} (hW : 2 * g.monitorRoom + (rest.map fun v => v.category).sum ≤ W) (hdg : decode c.code g.pc = .ok (.invokespecial index, 3))
    (hf : fr + 1 ≤ R.frames) (hl : W + (maxL + 11) + lo ≤ R.locals) (hc : cells ≤ R.cells) (hs : slots ≤ R.slots)
    (k : ∀ T', Stand p l e R s m args below meth c T' locs cells slots → T'.heap = h → own_End p e below P T' { g with pc := g.pc + 3, stack := val.toList ++ rest }) : own_End p e below P T g :=
  own_callC X hx hZ hown eT hyi w1 w2 w3 w4 hy hM hg hsize hlen hstack has hW hdg hf hl hc hs fun v T' L X' ⟨q1, q2, q3⟩ => by
    subst q1 q2
    rw [List.append_nil] at X'
    exact k T' X' q3
theorem own_callVp (X : Stand p l e R s m args below meth c T locs cells slots) (hx : p.tables.exec = Jvm.exec) (hZ : Z.Warmed39 s.vm) {own : String} (hown : s.vm.findClass own = some m.cls) (eT : T.heap = h) {index : Nat} {C : String} {y z : MethodName} {bytes : ByteArray} {maxL : Nat} {ret : Option FieldType} {fr lo : Nat} {as' : Array Value} {val : Option Value}
    (w1 : (Cond.methodLink own index y).before a0 Z = true) (wd : (Cond.declares y).before a0 Z = true) (hnf : NotFace s y) (wsel : (Cond.selects C y z).before a0 Z = true) (w2 : (Cond.instanceMethod z).before a0 Z = true) (w3 : (Cond.initialized z.cls).before a0 Z = true) (w4 : (Cond.code z bytes maxL ret).before a0 Z = true) (hy : y.cls ≠ "java/lang/invoke/MethodHandle" ∧ y.cls ≠ "java/lang/invoke/VarHandle")
    (hM : own_Met l Z z bytes maxL ret [] { frames := fr, cells := 0, slots := 0, locals := lo } as' h (own_Pq val h)) {a : Addr} (E : Exa Z h a C) {g : JFrame} (hg : g.method = m) (hsize : g.locals.size = c.maxLocals) {argsL rest : List Value} (hlen : ∀ sig, parseMethodDescriptor y.desc = some sig → argsL.length = sig.parameters.length) (hstack : g.stack = argsL.reverse ++ .ref a :: rest) (has : (.ref a :: argsL).toArray = as') {W : Nat} (hW : 2 * g.monitorRoom + (rest.map fun v => v.category).sum ≤ W) (hdg : decode c.code g.pc = .ok (.invokevirtual index, 3))
    (hf : fr + 1 ≤ R.frames) (hl : W + (maxL + 11) + lo ≤ R.locals) (hc : cells ≤ R.cells) (hs : slots ≤ R.slots)
    (k : ∀ T', Stand p l e R s m args below meth c T' locs cells slots → T'.heap = h → own_End p e below P T' { g with pc := g.pc + 3, stack := val.toList ++ rest }) : own_End p e below P T g :=
  own_callV X hx hZ hown eT w1 wd hnf wsel w2 w3 w4 hy hM E hg hsize hlen hstack has hW hdg hf hl hc hs fun v T' L X' ⟨q1, q2, q3⟩ => by
    subst q1 q2
    rw [List.append_nil] at X'
    exact k T' X' q3
theorem own_callPp (X : Stand p l e R s m args below meth c T locs cells slots) (hx : p.tables.exec = Jvm.exec) (hZ : Z.Warmed39 s.vm) {own : String} (hown : s.vm.findClass own = some m.cls) (eT : T.heap = h) {index : Nat} {y : MethodName} {bytes : ByteArray} {maxL : Nat} {ret : Option FieldType} {fr lo : Nat} {as' : Array Value} {val : Option Value}
    (w1 : (Cond.methodLink own index y).before a0 Z = true) (w2 : (Cond.instanceMethod y).before a0 Z = true) (wsel : (Cond.selects y.cls y y).before args s = true) (wp : (Cond.privateMethod y).before a0 Z = true) (w3 : (Cond.initialized y.cls).before a0 Z = true) (w4 : (Cond.code y bytes maxL ret).before a0 Z = true) (hy : y.cls ≠ "java/lang/invoke/MethodHandle" ∧ y.cls ≠ "java/lang/invoke/VarHandle")
    (hM : own_Met l Z y bytes maxL ret [] { frames := fr, cells := 0, slots := 0, locals := lo } as' h (own_Pq val h)) {C : String} {a : Addr} (E : Exa Z h a C) {g : JFrame} (hg : g.method = m) (hsize : g.locals.size = c.maxLocals) {argsL rest : List Value} (hlen : ∀ sig, parseMethodDescriptor y.desc = some sig → argsL.length = sig.parameters.length) (hstack : g.stack = argsL.reverse ++ .ref a :: rest) (has : (.ref a :: argsL).toArray = as') {W : Nat} (hW : 2 * g.monitorRoom + (rest.map fun v => v.category).sum ≤ W) (hdg : decode c.code g.pc = .ok (.invokevirtual index, 3))
    (hf : fr + 1 ≤ R.frames) (hl : W + (maxL + 11) + lo ≤ R.locals) (hc : cells ≤ R.cells) (hs : slots ≤ R.slots)
    (k : ∀ T', Stand p l e R s m args below meth c T' locs cells slots → T'.heap = h → own_End p e below P T' { g with pc := g.pc + 3, stack := val.toList ++ rest }) : own_End p e below P T g :=
  own_callP X hx hZ hown eT w1 w2 wsel wp w3 w4 hy hM E hg hsize hlen hstack has hW hdg hf hl hc hs fun v T' L X' ⟨q1, q2, q3⟩ => by
    subst q1 q2
    rw [List.append_nil] at X'
    exact k T' X' q3
end OwnPure
/-! own: a cell that is known -/
def own_K (h : Heap) (a : Addr) : Prop := ∃ cell : Cell, h[a]? = some cell ∧ cell.vm ≠ .unknown
theorem own_K_ext {h h' : Heap} {a : Addr} (K : own_K h a) (E : Ext h h') : own_K h' a := by obtain ⟨c, h1, h2⟩ := K; exact ⟨c, E.2 _ _ h1, h2⟩
theorem own_K_wr {h h' : Heap} {a b : Addr} {sl : Nat} {v : Value} (K : own_K h b) (W : Wr h h' a sl v) : own_K h' b := by
  obtain ⟨c, h1, h2⟩ := K
  obtain ⟨c', e1, -, e3, -⟩ := wr_at W h1
  exact ⟨c', e1, by rw [e3]; exact h2⟩
theorem own_K_keep {h h' : Heap} {a : Addr} {ws : List Addr} (K : own_K h a) (E : Keep h h' ws) : own_K h' a := by
  obtain ⟨c, h1, h2⟩ := K
  obtain ⟨c', e1, -, e3, -⟩ := E.2.2 _ _ h1
  exact ⟨c', e1, by rw [e3]; exact h2⟩
theorem own_K_new {h : Heap} {a : Addr} (U : ∃ cell : Cell, h[a]? = some cell ∧ cell.vm = .none ∧ cell.monitor = {}) : own_K h a := by
  obtain ⟨c, h1, h2, -⟩ := U
  exact ⟨c, h1, by rw [h2]; simp⟩
/-! own: an array of n places, place i holds f i -/
def own_A (Z : State) (h : Heap) (a : Addr) (ty : FieldType) (n : Nat) (f : Nat → Value) : Prop := ∃ c : Cell, Arr Z h a c ty ∧ c.slots.size = n ∧ n < 2147483648 ∧ ∀ i, i < n → c.slots[i]? = some (f i)
abbrev own_AJ (Z : State) (h : Heap) (a : Addr) (n : Nat) (f : Nat → Int64) : Prop := own_A Z h a .long n (fun i => .long (f i))
abbrev own_AI (Z : State) (h : Heap) (a : Addr) (n : Nat) (f : Nat → Int32) : Prop := own_A Z h a .int n (fun i => .int (f i))
abbrev own_AB (Z : State) (h : Heap) (a : Addr) (n : Nat) (f : Nat → Int32) : Prop := own_A Z h a .byte n (fun i => .int (f i))
def own_set {α : Type} (f : Nat → α) (i : Nat) (x : α) : Nat → α := fun k => if k = i then x else f k
theorem own_set_eq {α : Type} {f : Nat → α} {i k : Nat} {x : α} (h : k = i) : own_set f i x k = x := if_pos h
theorem own_set_ne {α : Type} {f : Nat → α} {i k : Nat} {x : α} (h : k ≠ i) : own_set f i x k = f k := if_neg h
section OwnArr
variable {Z : State} {h h' : Heap} {a b : Addr} {ty : FieldType} {n : Nat} {f f' : Nat → Value}
theorem own_A.lt (A : own_A Z h a ty n f) : a < h.size := by obtain ⟨c, A, -⟩ := A; exact A.lt
theorem own_A.ext (A : own_A Z h a ty n f) (E : Ext h h') : own_A Z h' a ty n f := by obtain ⟨c, A, r⟩ := A; exact ⟨c, A.ext E, r⟩
theorem own_A.other {sl : Nat} {v : Value} (A : own_A Z h b ty n f) (W : Wr h h' a sl v) (q : b ≠ a) : own_A Z h' b ty n f := by obtain ⟨c, A, r⟩ := A; exact ⟨c, A.other W q, r⟩
theorem own_A.keep {ws : List Addr} (A : own_A Z h a ty n f) (K : Keep h h' ws) (q : a ∉ ws) : own_A Z h' a ty n f := by obtain ⟨c, A, r⟩ := A; exact ⟨c, ⟨K.2.1 a c A.1 q, A.2⟩, r⟩
theorem own_A.congr (A : own_A Z h a ty n f) (q : ∀ i, i < n → f i = f' i) : own_A Z h a ty n f' := by obtain ⟨c, A, r1, r2, r3⟩ := A; exact ⟨c, A, r1, r2, fun i hi => by rw [← q i hi]; exact r3 i hi⟩
theorem own_nat {j : Int32} {i : Nat} (hj : j.toInt = (i : Int)) : j.toNatClampNeg = i := by
  show j.toInt.toNat = i
  rw [hj]; rfl
theorem own_negn {z : Int32} {k : Nat} (h : z.toInt = (k : Int)) : ¬ z < (0 : Int32) := by rw [Int32.lt_iff_toInt_lt, h, show (0 : Int32).toInt = 0 from rfl]; omega
theorem own_capn {z : Int32} {k cap : Nat} (h : z.toInt = (k : Int)) (hk : k ≤ cap) : z.toNatClampNeg ≤ cap := by rw [own_nat h]; exact hk
theorem own_in {c : Cell} {j : Int32} {i : Nat} (S : c.slots.size = n) (hj : j.toInt = (i : Int)) (hi : i < n) : ¬ (j < 0 ∨ c.slots.size ≤ j.toNatClampNeg) := by
  rw [own_nat hj, S, Int32.lt_iff_toInt_lt, hj, show (0 : Int32).toInt = 0 from rfl]; omega
theorem own_A_new {cA : ClassId} {z : Int32} (A : Arr Z h a (newA cA ty z) ty) (hz : z.toInt = (n : Int)) : own_A Z h a ty n (fun _ => defaultValue ty) := by
  have hn : z.toNatClampNeg = n := own_nat hz
  have hl := z.toInt_lt
  refine ⟨_, A, by rw [sz_new]; exact hn, by omega, fun i hi => ?_⟩
  simp [newA, hn, hi]
theorem own_A_set {j : Int32} {i : Nat} {v : Value} (A : own_A Z h a ty n f) (W : Wr h h' a j.toNatClampNeg v) (hj : j.toInt = (i : Int)) (hi : i < n) : own_A Z h' a ty n (own_set f i v) := by
  obtain ⟨c, A, r1, r2, r3⟩ := A
  rw [own_nat hj] at W
  refine ⟨_, A.same W, by rw [sz_set]; exact r1, r2, fun k hk => ?_⟩
  show (c.slots.setIfInBounds i v)[k]? = some (if k = i then v else f k)
  by_cases q : k = i
  · subst q; rw [if_pos rfl]; simp [r1, hi]
  · rw [if_neg q, Array.getElem?_setIfInBounds_ne (Ne.symm q)]; exact r3 k hk
end OwnArr
section OwnArrSteps
variable {p : Program} {l : Launch} {e : Env} {R : Room} {s : State} {m : MethodId} {args : Array Value} {below : List Frame} {meth : Method} {c : Code} {T : State} {locs : List Loc} {cells slots : Nat} {Z : State} {a0 : Array Value} {h : Heap} {a : Addr} {n i : Nat} {j : Int32} {g : JFrame} {rest : List Value}
theorem own_laload (X : Stand p l e R s m args below meth c T locs cells slots) (hx : p.tables.exec = Jvm.exec) (hZ : Z.Warmed39 s.vm) (eT : T.heap = h) {f : Nat → Int64} (A : own_AJ Z h a n f) (hj : j.toInt = (i : Int)) (hi : i < n) (hg : g.method = m) (hs : g.stack = .int j :: .ref a :: rest) (hd : decode c.code g.pc = .ok (.laload, 1)) :
    ∀ target, Steps p.tables e below (T.setTop { g with pc := g.pc + 1, stack := .long (f i) :: rest }) target → Steps p.tables e below (T.setTop g) target := by
  obtain ⟨cl, A, r1, r2, r3⟩ := A
  exact X.laload hx (j := j) (v := .long (f i)) (by rw [eT]; exact A.1) (State.isArrayOf_alike hZ.alike A.2.1) A.2.2 (own_in r1 hj hi) (by rw [own_nat hj]; exact r3 i hi) hg hs hd
theorem own_iaload (X : Stand p l e R s m args below meth c T locs cells slots) (hx : p.tables.exec = Jvm.exec) (hZ : Z.Warmed39 s.vm) (eT : T.heap = h) {f : Nat → Int32} (A : own_AI Z h a n f) (hj : j.toInt = (i : Int)) (hi : i < n) (hg : g.method = m) (hs : g.stack = .int j :: .ref a :: rest) (hd : decode c.code g.pc = .ok (.iaload, 1)) :
    ∀ target, Steps p.tables e below (T.setTop { g with pc := g.pc + 1, stack := .int (f i) :: rest }) target → Steps p.tables e below (T.setTop g) target := by
  obtain ⟨cl, A, r1, r2, r3⟩ := A
  exact X.iaload hx (j := j) (v := .int (f i)) (by rw [eT]; exact A.1) (State.isArrayOf_alike hZ.alike A.2.1) A.2.2 (own_in r1 hj hi) (by rw [own_nat hj]; exact r3 i hi) hg hs hd
theorem own_baload (X : Stand p l e R s m args below meth c T locs cells slots) (hx : p.tables.exec = Jvm.exec) (hZ : Z.Warmed39 s.vm) (eT : T.heap = h) {f : Nat → Int32} (A : own_AB Z h a n f) (hj : j.toInt = (i : Int)) (hi : i < n) (hg : g.method = m) (hs : g.stack = .int j :: .ref a :: rest) (hd : decode c.code g.pc = .ok (.baload, 1)) :
    ∀ target, Steps p.tables e below (T.setTop { g with pc := g.pc + 1, stack := .int (f i) :: rest }) target → Steps p.tables e below (T.setTop g) target := by
  obtain ⟨cl, A, r1, r2, r3⟩ := A
  exact X.baloadBytes hx (j := j) (v := .int (f i)) (by rw [eT]; exact A.1) (State.isArrayOf_alike hZ.alike A.2.1) A.2.2 (own_in r1 hj hi) (by rw [own_nat hj]; exact r3 i hi) hg hs hd
theorem own_length (X : Stand p l e R s m args below meth c T locs cells slots) (hx : p.tables.exec = Jvm.exec) (hZ : Z.Warmed39 s.vm) (eT : T.heap = h) {ty : FieldType} {f : Nat → Value} (A : own_A Z h a ty n f) {z : Int32} (hz : z.toInt = (n : Int)) (hg : g.method = m) (hs : g.stack = .ref a :: rest) (hd : decode c.code g.pc = .ok (.arraylength, 1)) :
    ∀ target, Steps p.tables e below (T.setTop { g with pc := g.pc + 1, stack := .int z :: rest }) target → Steps p.tables e below (T.setTop g) target := by
  obtain ⟨cl, A, r1, r2, -⟩ := A
  intro target k
  refine X.arraylength hx (by rw [eT]; exact A.1) (State.isArrayOf_alike hZ.alike A.2.1) hg hs hd _ ?_
  have q : cl.slots.size.toInt32 = z := Int32.toInt_inj.mp (by rw [r1, hz]; exact Int32.toInt_ofNat_of_lt (by omega))
  rw [q]; exact k
theorem own_lastore (X : Stand p l e R s m args below meth c T locs cells slots) (hx : p.tables.exec = Jvm.exec) (hZ : Z.Warmed39 s.vm) (eT : T.heap = h) {f : Nat → Int64} {x : Int64} (A : own_AJ Z h a n f) (hj : j.toInt = (i : Int)) (hi : i < n) (hg : g.method = m) (hs : g.stack = .long x :: .int j :: .ref a :: rest) (hd : decode c.code g.pc = .ok (.lastore, 1)) :
    ∃ T' h', Stand p l e R s m args below meth c T' (locs ++ [⟨a, j.toNatClampNeg⟩]) cells slots ∧ T'.heap = h' ∧ Wr h h' a j.toNatClampNeg (.long x) ∧ own_AJ Z h' a n (own_set f i x) ∧ ∀ target, Steps p.tables e below (T'.setTop { g with pc := g.pc + 1, stack := rest }) target → Steps p.tables e below (T.setTop g) target := by
  obtain ⟨cl, B, r1, r2, r3⟩ := A
  obtain ⟨T', h', X', e', W, st⟩ := stJ X hx hZ eT B (own_in r1 hj hi) hg hs hd
  exact ⟨T', h', X', e', W, (own_A_set ⟨cl, B, r1, r2, r3⟩ W hj hi).congr fun k _ => by unfold own_set; split <;> rfl, st⟩
theorem own_iastore (X : Stand p l e R s m args below meth c T locs cells slots) (hx : p.tables.exec = Jvm.exec) (hZ : Z.Warmed39 s.vm) (eT : T.heap = h) {f : Nat → Int32} {x : Int32} (A : own_AI Z h a n f) (hj : j.toInt = (i : Int)) (hi : i < n) (hg : g.method = m) (hs : g.stack = .int x :: .int j :: .ref a :: rest) (hd : decode c.code g.pc = .ok (.iastore, 1)) :
    ∃ T' h', Stand p l e R s m args below meth c T' (locs ++ [⟨a, j.toNatClampNeg⟩]) cells slots ∧ T'.heap = h' ∧ Wr h h' a j.toNatClampNeg (.int x) ∧ own_AI Z h' a n (own_set f i x) ∧ ∀ target, Steps p.tables e below (T'.setTop { g with pc := g.pc + 1, stack := rest }) target → Steps p.tables e below (T.setTop g) target := by
  obtain ⟨cl, B, r1, r2, r3⟩ := A
  obtain ⟨T', h', X', e', W, st⟩ := stI X hx hZ eT B (own_in r1 hj hi) hg hs hd
  exact ⟨T', h', X', e', W, (own_A_set ⟨cl, B, r1, r2, r3⟩ W hj hi).congr fun k _ => by unfold own_set; split <;> rfl, st⟩
theorem own_bastore (X : Stand p l e R s m args below meth c T locs cells slots) (hx : p.tables.exec = Jvm.exec) (hZ : Z.Warmed39 s.vm) (eT : T.heap = h) {f : Nat → Int32} {x : Int32} (A : own_AB Z h a n f) (hj : j.toInt = (i : Int)) (hi : i < n) (hg : g.method = m) (hs : g.stack = .int x :: .int j :: .ref a :: rest) (hd : decode c.code g.pc = .ok (.bastore, 1)) :
    ∃ T' h', Stand p l e R s m args below meth c T' (locs ++ [⟨a, j.toNatClampNeg⟩]) cells slots ∧ T'.heap = h' ∧ Wr h h' a j.toNatClampNeg (.int (nar .byte x)) ∧ own_AB Z h' a n (own_set f i (x.toInt8.toInt32)) ∧ ∀ target, Steps p.tables e below (T'.setTop { g with pc := g.pc + 1, stack := rest }) target → Steps p.tables e below (T.setTop g) target := by
  obtain ⟨cl, B, r1, r2, r3⟩ := A
  obtain ⟨T', h', X', e', W, st⟩ := stB X hx hZ eT B (own_in r1 hj hi) hg hs hd
  exact ⟨T', h', X', e', W, (own_A_set ⟨cl, B, r1, r2, r3⟩ W hj hi).congr fun k _ => by unfold own_set; split <;> rfl, st⟩
end OwnArrSteps

def own_bit (x : Int64) (i : Nat) : Bool := x.toBitVec.getLsbD i
theorem own_sh {i : Int32} {k : Nat} (h : i.toInt = (k : Int)) (hk : k < 64) : (i &&& 0x3f).toInt64 = Int64.ofNat k := by
  have e : (i &&& 0x3f).toInt = i.toInt % 2 ^ 6 := Jvm.Kit.i32_mask i 0x3f (k := 6) (by decide) (by decide)
  apply Int64.toInt_inj.mp
  rw [Int32.toInt_toInt64, e, Int64.toInt_ofNat_of_lt (by omega)]; omega
theorem own_shu {i : Int32} {k : Nat} (h : i.toInt = (k : Int)) (hk : k < 64) (x : Int64) : ((x.toUInt64 >>> (i &&& 0x3f).toInt64.toUInt64).toInt64).toBitVec = x.toBitVec >>> k := by
  rw [own_sh h hk]
  show (x.toUInt64 >>> (Int64.ofNat k).toUInt64).toBitVec = _
  rw [UInt64.toBitVec_shiftRight]
  have e : ((Int64.ofNat k).toUInt64.toBitVec % 64) = BitVec.ofNat 64 k := by
    apply BitVec.eq_of_toNat_eq
    show ((Int64.ofNat k).toBitVec % 64).toNat = _
    rw [BitVec.toNat_umod]
    show (BitVec.ofNat 64 k).toNat % 64 = _
    rw [BitVec.toNat_ofNat, Nat.mod_eq_of_lt (by omega), Nat.mod_eq_of_lt (by omega)]
  rw [e]
  show x.toBitVec >>> (BitVec.ofNat 64 k) = _
  rw [BitVec.ushiftRight_eq', BitVec.toNat_ofNat, Nat.mod_eq_of_lt (by omega)]
theorem own_b0 {i : Int32} {k : Nat} (h : i.toInt = (k : Int)) (hk : k < 64) (x : Int64) : (((x.toUInt64 >>> (i &&& 0x3f).toInt64.toUInt64).toInt64) &&& (1 : Int64)) = (0 : Int64) ↔ own_bit x k = false := by
  rw [← Int64.toBitVec_inj, Int64.toBitVec_and, own_shu h hk]
  have e : x.toBitVec >>> k &&& (1 : Int64).toBitVec = BitVec.zeroExtend 64 (BitVec.ofBool (own_bit x k)) := by
    apply BitVec.eq_of_getLsbD_eq
    intro j hj
    rw [BitVec.getLsbD_and, BitVec.getLsbD_ushiftRight, show (1 : Int64).toBitVec = 1#64 from rfl, BitVec.getLsbD_one]
    by_cases q : j = 0
    · subst q; simp [own_bit]
    · simp [q]
  rw [e]
  cases own_bit x k <;> decide
theorem own_shl {i : Int32} {k : Nat} (h : i.toInt = (k : Int)) (hk : k < 64) : ((1 : Int64) <<< (i &&& 0x3f).toInt64).toBitVec = 1#64 <<< k := by
  rw [own_sh h hk, Int64.toBitVec_shiftLeft]
  have e : ((Int64.ofNat k).toBitVec.smod 64) = BitVec.ofNat 64 k := by
    have q : ∀ k, k < 64 → ((Int64.ofNat k).toBitVec.smod 64) = BitVec.ofNat 64 k := by decide +kernel
    exact q k hk
  rw [e, BitVec.shiftLeft_eq', BitVec.toNat_ofNat, Nat.mod_eq_of_lt (by omega)]; rfl
theorem own_bit_ext {x y : Int64} (h : ∀ i, i < 64 → own_bit x i = own_bit y i) : x = y := Int64.toBitVec_inj.mp (BitVec.eq_of_getLsbD_eq fun i hi => h i hi)
theorem own_bit_and (x y : Int64) (i : Nat) : own_bit (x &&& y) i = (own_bit x i && own_bit y i) := by unfold own_bit; rw [Int64.toBitVec_and, BitVec.getLsbD_and]
theorem own_bit_or (x y : Int64) (i : Nat) : own_bit (x ||| y) i = (own_bit x i || own_bit y i) := by unfold own_bit; rw [Int64.toBitVec_or, BitVec.getLsbD_or]
theorem own_bit_not (x : Int64) {i : Nat} (hi : i < 64) : own_bit (x ^^^ (-1 : Int64)) i = !(own_bit x i) := by
  unfold own_bit; rw [Int64.toBitVec_xor, BitVec.getLsbD_xor, show (-1 : Int64).toBitVec = BitVec.allOnes 64 from by decide, BitVec.getLsbD_allOnes]; simp [hi]
theorem own_bit_zero (i : Nat) : own_bit 0 i = false := by simp [own_bit]
theorem own_bit_xor (x y : Int64) (i : Nat) : own_bit (x ^^^ y) i = (own_bit x i != own_bit y i) := by
  unfold own_bit; rw [Int64.toBitVec_xor, BitVec.getLsbD_xor]
theorem own_bit_m1 {i : Nat} (hi : i < 64) : own_bit (-1) i = true := by
  unfold own_bit; rw [show (-1 : Int64).toBitVec = BitVec.allOnes 64 from by decide, BitVec.getLsbD_allOnes]; simp [hi]
theorem own_shlx {i : Int32} {k : Nat} (h : i.toInt = (k : Int)) (hk : k < 64) (x : Int64) : (x <<< (i &&& 0x3f).toInt64).toBitVec = x.toBitVec <<< k := by
  rw [own_sh h hk, Int64.toBitVec_shiftLeft]
  have e : ((Int64.ofNat k).toBitVec.smod 64) = BitVec.ofNat 64 k := by
    have q : ∀ k, k < 64 → ((Int64.ofNat k).toBitVec.smod 64) = BitVec.ofNat 64 k := by decide +kernel
    exact q k hk
  rw [e, BitVec.shiftLeft_eq', BitVec.toNat_ofNat, Nat.mod_eq_of_lt (by omega)]
theorem own_bit_shl {i : Int32} {k : Nat} (h : i.toInt = (k : Int)) (hk : k < 64) (x : Int64) {b : Nat} (hb : b < 64) : own_bit (x <<< (i &&& 0x3f).toInt64) b = (decide (k ≤ b) && own_bit x (b - k)) := by
  unfold own_bit
  rw [own_shlx h hk, BitVec.getLsbD_shiftLeft]
  by_cases q : b < k
  · have : ¬ k ≤ b := by omega
    simp [q, this]
  · have : k ≤ b := by omega
    simp [q, this, hb]
theorem own_bit_shu {i : Int32} {k : Nat} (h : i.toInt = (k : Int)) (hk : k < 64) (x : Int64) (b : Nat) : own_bit ((x.toUInt64 >>> (i &&& 0x3f).toInt64.toUInt64).toInt64) b = own_bit x (k + b) := by
  unfold own_bit; rw [own_shu h hk, BitVec.getLsbD_ushiftRight]
theorem own_bit_ones {i : Int32} {w : Nat} (h : i.toInt = (w : Int)) (hw : w < 64) {b : Nat} (hb : b < 64) : own_bit (((1 : Int64) <<< (i &&& 0x3f).toInt64) - (1 : Int64)) b = decide (b < w) := by
  unfold own_bit
  rw [Int64.toBitVec_sub, own_shlx h hw]
  show BitVec.getLsbD (1#64 <<< w - 1#64) b = _
  have p1 : 2 ^ w < 2 ^ 64 := Nat.pow_lt_pow_right (by decide) hw
  have p2 : 0 < 2 ^ w := Nat.pow_pos (by decide)
  have e : (1#64 <<< w - 1#64) = BitVec.ofNat 64 (2 ^ w - 1) := by
    apply BitVec.eq_of_toNat_eq
    rw [BitVec.toNat_sub, BitVec.toNat_shiftLeft, BitVec.toNat_ofNat]
    simp only [BitVec.toNat_ofNat, Nat.one_shiftLeft]
    omega
  rw [e, BitVec.getLsbD_ofNat, Nat.testBit_two_pow_sub_one]; simp [hb]
/-- the mask of w bits from s on, by its bits -/
def own_isM (x : Int64) (s w : Nat) : Prop := ∀ b, b < 64 → own_bit x b = decide (s ≤ b ∧ b < s + w)
theorem own_isM_eq {x y : Int64} {s w : Nat} (hx : own_isM x s w) (hy : own_isM y s w) : x = y := own_bit_ext fun b hb => by rw [hx b hb, hy b hb]
theorem own_m_all {s w : Nat} (h : s = 0) (hw : 64 ≤ w) : own_isM (-1) s w := fun b hb => by rw [own_bit_m1 hb]; simp; omega
theorem own_m_law {i j : Int32} {s w : Nat} (hi : i.toInt = (w : Int)) (hw : w < 64) (hj : j.toInt = (s : Int)) (hs : s < 64) : own_isM ((((1 : Int64) <<< (i &&& 0x3f).toInt64) - (1 : Int64)) <<< (j &&& 0x3f).toInt64) s w := fun b hb => by
  rw [own_bit_shl hj hs _ hb]
  by_cases q : s ≤ b
  · rw [own_bit_ones hi hw (by omega)]; simp [q]; omega
  · simp [q]
theorem own_m_ctor {i j : Int32} {s w : Nat} (hi : i.toInt = ((64 - w : Nat) : Int)) (hw : 1 ≤ w) (hw2 : w ≤ 64) (hj : j.toInt = (s : Int)) (hs : s < 64) : own_isM (((((-1 : Int64)).toUInt64 >>> (i &&& 0x3f).toInt64.toUInt64).toInt64) <<< (j &&& 0x3f).toInt64) s w := fun b hb => by
  rw [own_bit_shl hj hs _ hb]
  by_cases q : s ≤ b
  · rw [own_bit_shu hi (by omega)]
    simp [q]
    by_cases r : 64 - w + (b - s) < 64
    · rw [own_bit_m1 r]; simp; omega
    · have : own_bit (-1) (64 - w + (b - s)) = false := by unfold own_bit; exact BitVec.getLsbD_of_ge _ _ (by omega)
      rw [this]; simp; omega
  · simp [q]
def own_st (n i : Nat) : Nat := i * (64 / n) + min i (64 % n)
def own_wd (n i : Nat) : Nat := 64 / n + (if i < 64 % n then 1 else 0)
theorem own_st0 (n : Nat) : own_st n 0 = 0 := by simp [own_st]
theorem own_stS (n i : Nat) : own_st n (i + 1) = own_st n i + own_wd n i := by
  unfold own_st own_wd
  rw [Nat.add_mul]
  by_cases q : i < 64 % n
  · rw [if_pos q]; omega
  · rw [if_neg q]; omega
theorem own_stN {n : Nat} (h : 0 < n) : own_st n n = 64 := by
  unfold own_st
  have a := Nat.div_add_mod 64 n
  have b := Nat.mod_lt 64 h
  rw [Nat.min_eq_right (by omega)]; omega
theorem own_wd1 {n : Nat} (h : 0 < n) (h2 : n ≤ 64) (i : Nat) : 1 ≤ own_wd n i := by
  unfold own_wd
  have : 1 ≤ 64 / n := (Nat.one_le_div_iff h).mpr h2
  omega
theorem own_st_mono {n i j : Nat} (h : i ≤ j) : own_st n i ≤ own_st n j := by
  unfold own_st
  have : i * (64 / n) ≤ j * (64 / n) := Nat.mul_le_mul_right _ h
  omega
theorem own_st64 {n i : Nat} (h : 0 < n) (hi : i ≤ n) : own_st n i ≤ 64 := by rw [← own_stN h]; exact own_st_mono hi
theorem own_st_lt {n i : Nat} (h : 0 < n) (h2 : n ≤ 64) (hi : i < n) : own_st n i < 64 := by
  have a := own_st64 h (show i + 1 ≤ n from hi)
  rw [own_stS] at a
  have b := own_wd1 h h2 i
  omega
theorem own_dv {z : Int32} {n : Nat} (hz : z.toInt = (n : Int)) (h : 0 < n) : ((64 : Int32) / z).toInt = ((64 / n : Nat) : Int) ∧ ((64 : Int32) % z).toInt = ((64 % n : Nat) : Int) := by
  have o : (64 : Int32).toInt = 64 := rfl
  constructor
  · rw [Jvm.Kit.i32_div (by rw [o]; omega), o, hz, Int.tdiv_eq_ediv_of_nonneg (by decide)]; rfl
  · rw [Jvm.Kit.i32_rem_nonneg (by rw [o]; decide), o, hz]; rfl
def own_scan (f : Nat → Int64) (x : Int64) : Nat → Nat → Nat
  | 0, i => i
  | m + 1, i => if (x &&& f i) = (0 : Int64) then i else own_scan f x m (i + 1)
theorem own_scan_spec (f : Nat → Int64) (x : Int64) : ∀ m i, i ≤ own_scan f x m i ∧ own_scan f x m i ≤ i + m ∧ (∀ k, i ≤ k → k < own_scan f x m i → ¬ (x &&& f k) = 0) ∧ (own_scan f x m i < i + m → (x &&& f (own_scan f x m i)) = 0) := by
  intro m
  induction m with
  | zero => intro i; rw [own_scan]; exact ⟨Nat.le_refl _, by omega, fun k a b => by omega, fun h => by omega⟩
  | succ m ih =>
    intro i
    rw [own_scan]
    by_cases q : (x &&& f i) = 0
    · rw [if_pos q]; exact ⟨Nat.le_refl _, by omega, fun k a b => by omega, fun _ => q⟩
    · rw [if_neg q]
      obtain ⟨a, b, c, d⟩ := ih (i + 1)
      refine ⟨by omega, by omega, fun k h1 h2 => ?_, fun h => d (by omega)⟩
      by_cases e : k = i
      · subst e; exact q
      · exact c k (by omega) h2
theorem own_scan_uniq {f : Nat → Int64} {x : Int64} {n j : Nat} (hj : j ≤ n) (h1 : ∀ k, k < j → ¬ (x &&& f k) = 0) (h2 : j < n → (x &&& f j) = 0) : own_scan f x n 0 = j := by
  obtain ⟨-, b, c, d⟩ := own_scan_spec f x n 0
  rw [Nat.zero_add] at b d
  by_cases q : own_scan f x n 0 < j
  · exact absurd (d (by omega)) (h1 _ q)
  · by_cases r : j < own_scan f x n 0
    · exact absurd (h2 (by omega)) (c j (Nat.zero_le _) r)
    · omega
theorem own_and0 {x y : Int64} {b : Nat} (hx : own_bit x b = true) (hy : own_bit y b = true) : ¬ (x &&& y) = 0 := fun q => by
  have := own_bit_and x y b
  rw [q, own_bit_zero, hx, hy] at this
  cases this
/-- the law's own difference: ones below block j, none in block j -/
theorem own_ok1 {f : Nat → Int64} {n j : Nat} {low mj x diff : Int64} (hn : 0 < n) (hn2 : n ≤ 64) (hj : j ≤ n) (hf : ∀ i, i < n → own_isM (f i) (own_st n i) (own_wd n i)) (hl : own_isM low 0 (own_st n j)) (hm : j < n → own_isM mj (own_st n j) (own_wd n j))
    (hd : diff = (low ||| ((x &&& (low ^^^ (-1 : Int64))) &&& (mj ^^^ (-1 : Int64))))) : own_scan f diff n 0 = j := by
  apply own_scan_uniq hj
  · intro k hk
    have a := own_stS n k
    have b := own_wd1 hn hn2 k
    have c := own_st_mono (n := n) (show k + 1 ≤ j from hk)
    have d := own_st64 hn hj
    have e : own_bit low (own_st n k) = true := by rw [hl _ (by omega)]; simp; omega
    refine own_and0 (b := own_st n k) ?_ ?_
    · rw [hd, own_bit_or, e]; rfl
    · rw [hf k (by omega) _ (by omega)]; simp; omega
  · intro h
    apply own_bit_ext
    intro b hb
    rw [own_bit_and, hd, own_bit_or, own_bit_and, own_bit_and, own_bit_not _ hb, own_bit_not _ hb, own_bit_zero, hf j h b hb, hl b hb, hm h b hb]
    by_cases q : own_st n j ≤ b ∧ b < own_st n j + own_wd n j
    · have : ¬ b < own_st n j := by omega
      simp [q, this]
    · simp [q]
def own_min (x y : Int32) : Int32 := if y < x then y else x
def own_lw (p : Int32) : Int64 := if p < (64 : Int32) then (((1 : Int64) <<< (p &&& 0x3f).toInt64) - (1 : Int64)) else (-1 : Int64)
def own_mkv (s w : Int32) : Int64 := if w < (64 : Int32) then ((((1 : Int64) <<< (w &&& 0x3f).toInt64) - (1 : Int64)) <<< (s &&& 0x3f).toInt64) else (-1 : Int64)
theorem own_ofN {k : Nat} (h : k < 2147483648) : (Int32.ofNat k).toInt = (k : Int) := Int32.toInt_ofNat_of_lt h
theorem own_ofE {x : Int32} {k : Nat} (h : x.toInt = (k : Int)) : x = Int32.ofNat k := by
  apply Int32.toInt_inj.mp
  have := x.toInt_lt
  rw [own_ofN (by omega)]; exact h
theorem own_lt64 {p : Int32} {s : Nat} (h : p.toInt = (s : Int)) : p < (64 : Int32) ↔ s < 64 := by rw [Int32.lt_iff_toInt_lt, show (64 : Int32).toInt = 64 from rfl]; omega
theorem own_lwM {p : Int32} {s : Nat} (h : p.toInt = (s : Int)) (hs : s ≤ 64) : own_isM (own_lw p) 0 s := by
  unfold own_lw
  by_cases q : s < 64
  · rw [if_pos ((own_lt64 h).mpr q)]
    intro b hb
    rw [own_bit_ones h q hb]; simp
  · rw [if_neg (mt (own_lt64 h).mp q)]; exact own_m_all rfl (by omega)
theorem own_mkM {n i : Nat} (hn : 0 < n) (hn2 : n ≤ 64) (hi : i < n) : own_isM (own_mkv (Int32.ofNat (own_st n i)) ((Int32.ofNat (own_st n (i + 1))) - (Int32.ofNat (own_st n i)))) (own_st n i) (own_wd n i) := by
  have a := own_st_lt hn hn2 hi
  have b := own_st64 hn (show i + 1 ≤ n from hi)
  have c := own_stS n i
  have e1 := own_ofN (k := own_st n i) (by omega)
  have e2 := own_ofN (k := own_st n (i + 1)) (by omega)
  have e3 : ((Int32.ofNat (own_st n (i + 1))) - (Int32.ofNat (own_st n i))).toInt = ((own_wd n i : Nat) : Int) := by
    rw [Jvm.Kit.i32_sub (by omega) (by omega), e1, e2]; omega
  unfold own_mkv
  by_cases q : own_wd n i < 64
  · rw [if_pos ((own_lt64 e3).mpr q)]; exact own_m_law e3 q e1 a
  · rw [if_neg (mt (own_lt64 e3).mp q)]; exact own_m_all (by omega) (by omega)
theorem own_minv {x y : Int32} {a b : Nat} (hx : x.toInt = (a : Int)) (hy : y.toInt = (b : Int)) : (own_min x y).toInt = ((min a b : Nat) : Int) := by
  unfold own_min; split <;> rename_i h <;> rw [Int32.lt_iff_toInt_lt] at h <;> omega
theorem own_stv {z p1 q r : Int32} {n i : Nat} (hz : z.toInt = (n : Int)) (h : 0 < n) (h2 : n ≤ 64) (hi : p1.toInt = (i : Int)) (hin : i ≤ n) (hq : q = ((64 : Int32) / z)) (hr : r = ((64 : Int32) % z)) : ((p1 * q) + (own_min p1 r)) = Int32.ofNat (own_st n i) := by
  have d := own_dv hz h
  rw [← hq, ← hr] at d
  have m := own_minv hi d.2
  have s := own_st64 h hin
  unfold own_st at s ⊢
  have e : (p1 * q).toInt = ((i * (64 / n) : Nat) : Int) := by
    rw [Jvm.Kit.i32_mul, hi, d.1] <;> (try rw [hi, d.1, ← Int.natCast_mul]) <;> (try omega)
  apply own_ofE
  rw [Jvm.Kit.i32_add (by omega) (by omega), e, m]; omega
theorem own_inc {x : Int32} {k : Nat} (h : x.toInt = (k : Int)) (hk : k ≤ 64) : (x + (1 : Int32)).toInt = ((k + 1 : Nat) : Int) := by
  have o : (1 : Int32).toInt = 1 := rfl
  rw [Jvm.Kit.i32_add] <;> rw [o] <;> omega
theorem own_nz {z : Int32} {n : Nat} (h : z.toInt = (n : Int)) (hn : 0 < n) : ¬ z = (0 : Int32) := fun q => by
  rw [q, show (0 : Int32).toInt = 0 from rfl] at h; omega
theorem own_ltn {i z : Int32} {k n : Nat} (h : i.toInt = (k : Int)) (hz : z.toInt = (n : Int)) : i < z ↔ k < n := by rw [Int32.lt_iff_toInt_lt]; omega
theorem own_wdv {z i w : Int32} {n k : Nat} (hz : z.toInt = (n : Int)) (h : 0 < n) (h2 : n ≤ 64) (hi : i.toInt = (k : Int)) (hw : w = (((64 : Int32) / z) + (own_z (i < ((64 : Int32) % z))))) : w.toInt = ((own_wd n k : Nat) : Int) := by
  have d := own_dv hz h
  have q := own_ltn hi d.2
  have e : (own_z (i < ((64 : Int32) % z))).toInt = (((if k < 64 % n then 1 else 0) : Nat) : Int) := by
    unfold own_z
    by_cases p : i < ((64 : Int32) % z)
    · rw [if_pos p, if_pos (q.mp p)]; rfl
    · rw [if_neg p, if_neg (mt q.mpr p)]; rfl
  have l : 64 / n ≤ 64 := Nat.div_le_self _ _
  have l2 : (if k < 64 % n then 1 else 0) ≤ 1 := by split <;> omega
  unfold own_wd
  obtain ⟨d1, -⟩ := d
  generalize 64 / n = D at *
  generalize (if k < 64 % n then 1 else 0) = C at *
  rw [hw, Jvm.Kit.i32_add (by omega) (by omega), d1, e]
  omega
theorem own_neg {z : Int32} (h : 0 ≤ z.toInt) : ¬ z < (0 : Int32) := by rw [Int32.lt_iff_toInt_lt, show (0 : Int32).toInt = 0 from rfl]; omega
theorem own_kb {x kv nv : Int32} {nt : Nat} (hk : kv = ((x &&& (2147483647 : Int32)) % (64 : Int32))) (hn : nv = (kv + (1 : Int32))) (h : nt = nv.toInt.toNat) : 0 < nt ∧ nt ≤ 64 ∧ nv.toInt = (nt : Int) ∧ (kv + (1 : Int32)).toInt = (nt : Int) := by
  have e := Jvm.Kit.i32_mask x 2147483647 (k := 31) (by decide) (by decide)
  have e2 : ((x &&& 2147483647) % 64).toInt = (x &&& 2147483647).toInt % 64 := Jvm.Kit.i32_rem_nonneg (by omega)
  rw [← hk] at e2
  have o : (1 : Int32).toInt = 1 := rfl
  have e3 : (kv + 1).toInt = kv.toInt + 1 := by rw [Jvm.Kit.i32_add] <;> rw [o] <;> omega
  rw [← hn] at e3 ⊢
  omega
theorem own_kb2 {x kv : Int32} (hk : kv = ((x &&& (2147483647 : Int32)) % (64 : Int32))) : ¬ kv < (0 : Int32) ∧ ¬ (63 : Int32) < kv := by
  have e := Jvm.Kit.i32_mask x 2147483647 (k := 31) (by decide) (by decide)
  have e2 : ((x &&& 2147483647) % 64).toInt = (x &&& 2147483647).toInt % 64 := Jvm.Kit.i32_rem_nonneg (by omega)
  rw [← hk] at e2
  rw [Int32.lt_iff_toInt_lt, Int32.lt_iff_toInt_lt, show (0 : Int32).toInt = 0 from rfl, show (63 : Int32).toInt = 63 from rfl]
  omega
theorem own_nv1 {x kv nv : Int32} (hk : kv = ((x &&& (2147483647 : Int32)) % (64 : Int32))) (hn : nv = (kv + (1 : Int32))) : (nv + (1 : Int32)).toInt = nv.toInt + 1 ∧ 1 ≤ nv.toInt ∧ nv.toInt ≤ 64 := by
  obtain ⟨a, b, c, -⟩ := own_kb hk hn rfl
  have o : (1 : Int32).toInt = 1 := rfl
  refine ⟨?_, by omega, by omega⟩
  rw [Jvm.Kit.i32_add] <;> rw [o] <;> omega
theorem own_nz1 {x kv nv : Int32} (hk : kv = ((x &&& (2147483647 : Int32)) % (64 : Int32))) (hn : nv = (kv + (1 : Int32))) : ¬ (nv + (1 : Int32)) = (0 : Int32) := fun q => by
  have a := own_nv1 hk hn
  rw [q, show (0 : Int32).toInt = 0 from rfl] at a; omega
theorem own_jb {y nv jv : Int32} {nt jt : Nat} (hj : jv = ((y &&& (2147483647 : Int32)) % (nv + (1 : Int32)))) (hn : nv.toInt = (nt : Int)) (hnt : nt ≤ 64) (h : jt = jv.toInt.toNat) : jv.toInt = (jt : Int) ∧ jt ≤ nt := by
  have e := Jvm.Kit.i32_mask y 2147483647 (k := 31) (by decide) (by decide)
  have o : (1 : Int32).toInt = 1 := rfl
  have e3 : (nv + 1).toInt = nv.toInt + 1 := by rw [Jvm.Kit.i32_add] <;> rw [o] <;> omega
  have e2 : ((y &&& 2147483647) % (nv + 1)).toInt = (y &&& 2147483647).toInt % (nv + 1).toInt := Jvm.Kit.i32_rem_nonneg (by omega)
  rw [← hj, e3] at e2
  have b1 := Int.emod_nonneg (y &&& 2147483647).toInt (show nv.toInt + 1 ≠ 0 by omega)
  have b2 := Int.emod_lt_of_pos (y &&& 2147483647).toInt (show 0 < nv.toInt + 1 by omega)
  omega
theorem own_pos {r : Int32} {k : Nat} (h : r.toInt = (k : Int)) : (0 : Int32) < r ↔ 0 < k := by rw [Int32.lt_iff_toInt_lt, show (0 : Int32).toInt = 0 from rfl]; omega
theorem own_dec {r : Int32} {k : Nat} (h : r.toInt = (k : Int)) (q : (0 : Int32) < r) : (r - (1 : Int32)).toInt = ((k - 1 : Nat) : Int) := by
  have p := (own_pos h).mp q
  have o : (1 : Int32).toInt = 1 := rfl
  have l := r.toInt_lt
  rw [Jvm.Kit.i32_sub] <;> rw [o] <;> omega
theorem own_r1 {fm : Nat → Int64} {nt jt : Nat} {a b low mj x dif : Int64} {r1 jv : Int32} (hr1 : r1 = Int32.ofNat (own_scan fm (a ^^^ b) nt 0)) (hb : b = (a ^^^ dif)) (hd : dif = (low ||| ((x &&& (low ^^^ (-1 : Int64))) &&& (mj ^^^ (-1 : Int64))))) (h0 : 0 < nt) (hn : nt ≤ 64) (hj : jt ≤ nt) (hjv : jv.toInt = (jt : Int))
    (hf : ∀ i, i < nt → own_isM (fm i) (own_st nt i) (own_wd nt i)) (hl : own_isM low 0 (own_st nt jt)) (hm : jt < nt → own_isM mj (own_st nt jt) (own_wd nt jt)) : r1 = jv := by
  have e : (a ^^^ b) = dif := by rw [hb, ← Int64.xor_assoc, Int64.xor_self, Int64.zero_xor]
  rw [e, own_ok1 h0 hn hj hf hl hm hd] at hr1
  rw [hr1, own_ofE hjv]

theorem d4_0 : decode jdk_29_method_69_code 0 = .ok (.iload_n 0, 1) := by decide +kernel
theorem d4_1 : decode jdk_29_method_69_code 1 = .ok (.iload_n 1, 1) := by decide +kernel
theorem d4_2 : decode jdk_29_method_69_code 2 = .ok (.if_icmp .gt 7, 3) := by decide +kernel
theorem d4_5 : decode jdk_29_method_69_code 5 = .ok (.iload_n 0, 1) := by decide +kernel
theorem d4_6 : decode jdk_29_method_69_code 6 = .ok (.goto 4, 3) := by decide +kernel
theorem d4_9 : decode jdk_29_method_69_code 9 = .ok (.iload_n 1, 1) := by decide +kernel
theorem d4_10 : decode jdk_29_method_69_code 10 = .ok (.ireturn, 1) := by decide +kernel
set_option maxRecDepth 65536 in
set_option maxHeartbeats 4000000 in
theorem ef_4 (m : MethodId) (p0 : Int32) (p1 : Int32) : entryFrame m #[(.int p0), (.int p1)] 2 = mkF m 0 #[.val (.int p0), .val (.int p1)] [] := by first | (simp [entryFrame, mkF, argsToLocals, Value.category]; done) | rfl
set_option maxRecDepth 65536 in
set_option maxHeartbeats 40000000 in
theorem rm4 (l : Launch) (Z : State) (aw : Array Value) (hw : ∀ d ∈ tables_1, d.before aw Z = true) {ws : List Jvm.Cond} (p0 : Int32) (p1 : Int32)  (h0 : Heap) (n0 : Nat) (Z0 : n0 ≤ h0.size)  :
    own_Met l Z (⟨"java/lang/Math", "min", "(II)I"⟩ : MethodName) jdk_29_method_69_code 2 (some .int) ws ({ frames := 0, cells := 0, slots := 0, locals := 0 } : Room) #[(.int p0), (.int p1)] h0 (own_Pq (some (.int (own_min p0 p1))) h0) := by
  refine own_body (Jvm.Free.JP.mathPlain rfl (by decide +kernel)) ?_
  intro p e s m below meth c s₁ hx hZ hby hml hown hnm hret hlk X0 e0
  replace hown : s.vm.findClass "java/lang/Math" = some m.cls := hown
  replace hml : c.maxLocals = 2 := hml
  obtain ⟨P, hP⟩ : ∃ P, P = own_P below s (own_Pq (some (.int (own_min p0 p1))) h0) ({ frames := 0, cells := 0, slots := 0, locals := 0 } : Room).cells ({ frames := 0, cells := 0, slots := 0, locals := 0 } : Room).slots := ⟨_, rfl⟩
  rw [← hP]
  refine own_cast (ef_4 m p0 p1) ?_
  refine own_go (T' := s₁) (f' := (mkF m 2 #[.val (.int p0), .val (.int p1)] [(.int p1), (.int p0)])) (fun t kt => ?_) ?_
  · show Steps p.tables e below (s₁.setTop (mkF m 0 #[.val (.int p0), .val (.int p1)] [])) t
    refine XS.iloadN X0.here hx rfl (hb hby d4_0) rfl ?_
    show Steps p.tables e below (s₁.setTop (mkF m 1 #[.val (.int p0), .val (.int p1)] [(.int p0)])) t
    refine XS.iloadN X0.here hx rfl (hb hby d4_1) rfl ?_
    show Steps p.tables e below (s₁.setTop (mkF m 2 #[.val (.int p0), .val (.int p1)] [(.int p1), (.int p0)])) t
    exact kt
  by_cases hc2_1 : p1 < p0
  · refine own_go (T' := s₁) (f' := (mkF m 10 #[.val (.int p0), .val (.int p1)] [(.int p1)])) (fun t kt => ?_) ?_
    · show Steps p.tables e below (s₁.setTop (mkF m 2 #[.val (.int p0), .val (.int p1)] [(.int p1), (.int p0)])) t
      refine XS.icmpYes X0.here hx rfl (pc0 := 2) (pc' := 9) rfl (hb hby d4_2) rfl (tlt hc2_1).2.2.1 (by decide) (by decide) ?_
      show Steps p.tables e below (s₁.setTop (mkF m 9 #[.val (.int p0), .val (.int p1)] [])) t
      refine XS.iloadN X0.here hx rfl (hb hby d4_9) rfl ?_
      show Steps p.tables e below (s₁.setTop (mkF m 10 #[.val (.int p0), .val (.int p1)] [(.int p1)])) t
      exact kt
    exact own_retI X0 hP hx hlk e0 hret (hb hby d4_10) (by decide) (by decide) ⟨(by unfold own_min; simp [hc2_1]), rfl, rfl⟩
  · refine own_go (T' := s₁) (f' := (mkF m 10 #[.val (.int p0), .val (.int p1)] [(.int p0)])) (fun t kt => ?_) ?_
    · show Steps p.tables e below (s₁.setTop (mkF m 2 #[.val (.int p0), .val (.int p1)] [(.int p1), (.int p0)])) t
      refine XS.icmpNo X0.here hx rfl (hb hby d4_2) rfl (flt hc2_1).2.2.1 ?_
      show Steps p.tables e below (s₁.setTop (mkF m 5 #[.val (.int p0), .val (.int p1)] [])) t
      refine XS.iloadN X0.here hx rfl (hb hby d4_5) rfl ?_
      show Steps p.tables e below (s₁.setTop (mkF m 6 #[.val (.int p0), .val (.int p1)] [(.int p0)])) t
      refine XS.goto X0.here hx rfl (pc0 := 6) (pc' := 10) rfl (hb hby d4_6) (by decide) (by decide) ?_
      show Steps p.tables e below (s₁.setTop (mkF m 10 #[.val (.int p0), .val (.int p1)] [(.int p0)])) t
      exact kt
    exact own_retI X0 hP hx hlk e0 hret (hb hby d4_10) (by decide) (by decide) ⟨(by unfold own_min; simp [hc2_1]), rfl, rfl⟩
theorem pd_0 : parseMethodDescriptor "(II)I" = some ⟨[.int, .int], some .int⟩ := by decide +kernel
theorem pn_0 : plainName "com/example/resemblr/resemblr/SimHashBlocksFirstSharedPinLaw" = true := by first | (simp [plainName, overriddenIn]; done) | decide +kernel
theorem d3_0 : decode method_2_code 0 = .ok (.iload_n 0, 1) := by decide +kernel
theorem d3_1 : decode method_2_code 1 = .ok (.iconst 1, 1) := by decide +kernel
theorem d3_2 : decode method_2_code 2 = .ok (.iadd, 1) := by decide +kernel
theorem d3_3 : decode method_2_code 3 = .ok (.istore_n 2, 1) := by decide +kernel
theorem d3_4 : decode method_2_code 4 = .ok (.bipush 64, 2) := by decide +kernel
theorem d3_6 : decode method_2_code 6 = .ok (.iload_n 2, 1) := by decide +kernel
theorem d3_7 : decode method_2_code 7 = .ok (.idiv, 1) := by decide +kernel
theorem d3_8 : decode method_2_code 8 = .ok (.istore_n 3, 1) := by decide +kernel
theorem d3_9 : decode method_2_code 9 = .ok (.bipush 64, 2) := by decide +kernel
theorem d3_11 : decode method_2_code 11 = .ok (.iload_n 2, 1) := by decide +kernel
theorem d3_12 : decode method_2_code 12 = .ok (.irem, 1) := by decide +kernel
theorem d3_13 : decode method_2_code 13 = .ok (.istore 4, 2) := by decide +kernel
theorem d3_15 : decode method_2_code 15 = .ok (.iload_n 1, 1) := by decide +kernel
theorem d3_16 : decode method_2_code 16 = .ok (.iload_n 3, 1) := by decide +kernel
theorem d3_17 : decode method_2_code 17 = .ok (.imul, 1) := by decide +kernel
theorem d3_18 : decode method_2_code 18 = .ok (.iload_n 1, 1) := by decide +kernel
theorem d3_19 : decode method_2_code 19 = .ok (.iload 4, 2) := by decide +kernel
theorem d3_21 : decode method_2_code 21 = .ok (.invokestatic 7, 3) := by decide +kernel
theorem d3_24 : decode method_2_code 24 = .ok (.iadd, 1) := by decide +kernel
theorem d3_25 : decode method_2_code 25 = .ok (.ireturn, 1) := by decide +kernel
set_option maxRecDepth 65536 in
set_option maxHeartbeats 4000000 in
theorem ef_3 (m : MethodId) (p0 : Int32) (p1 : Int32) : entryFrame m #[(.int p0), (.int p1)] 5 = mkF m 0 #[.val (.int p0), .val (.int p1), .unset, .unset, .unset] [] := by first | (simp [entryFrame, mkF, argsToLocals, Value.category]; done) | rfl
set_option maxRecDepth 65536 in
set_option maxHeartbeats 40000000 in
theorem rm3 (l : Launch) (Z : State) (aw : Array Value) (hw : ∀ d ∈ tables_1, d.before aw Z = true) {ws : List Jvm.Cond} (p0 : Int32) (p1 : Int32) (n : Nat) (i : Nat) (h0 : Heap) (n0 : Nat) (Z0 : n0 ≤ h0.size) (hz : (p0 + (1 : Int32)).toInt = (n : Int)) (h0n : 0 < n) (hn : n ≤ 64) (hi : p1.toInt = (i : Int)) (hin : i ≤ n) :
    own_Met l Z (⟨"com/example/resemblr/resemblr/SimHashBlocksFirstSharedPinLaw", "start", "(II)I"⟩ : MethodName) method_2_code 5 (some .int) ws ({ frames := 1, cells := 0, slots := 0, locals := 14 } : Room) #[(.int p0), (.int p1)] h0 (own_Pq (some (.int (Int32.ofNat (own_st n i)))) h0) := by
  refine own_body (plainFor_of_name pn_0) ?_
  intro p e s m below meth c s₁ hx hZ hby hml hown hnm hret hlk X0 e0
  replace hown : s.vm.findClass "com/example/resemblr/resemblr/SimHashBlocksFirstSharedPinLaw" = some m.cls := hown
  replace hml : c.maxLocals = 5 := hml
  obtain ⟨P, hP⟩ : ∃ P, P = own_P below s (own_Pq (some (.int (Int32.ofNat (own_st n i)))) h0) ({ frames := 1, cells := 0, slots := 0, locals := 14 } : Room).cells ({ frames := 1, cells := 0, slots := 0, locals := 14 } : Room).slots := ⟨_, rfl⟩
  rw [← hP]
  refine own_cast (ef_3 m p0 p1) ?_
  refine own_go (T' := s₁) (f' := (mkF m 3 #[.val (.int p0), .val (.int p1), .unset, .unset, .unset] [(.int (p0 + (1 : Int32)))])) (fun t kt => ?_) ?_
  · show Steps p.tables e below (s₁.setTop (mkF m 0 #[.val (.int p0), .val (.int p1), .unset, .unset, .unset] [])) t
    refine XS.iloadN X0.here hx rfl (hb hby d3_0) rfl ?_
    show Steps p.tables e below (s₁.setTop (mkF m 1 #[.val (.int p0), .val (.int p1), .unset, .unset, .unset] [(.int p0)])) t
    refine XS.iconst X0.here hx rfl (hb hby d3_1) ?_
    show Steps p.tables e below (s₁.setTop (mkF m 2 #[.val (.int p0), .val (.int p1), .unset, .unset, .unset] [(.int (1 : Int32)), (.int p0)])) t
    refine XS.iadd X0.here hx rfl (hb hby d3_2) rfl ?_
    show Steps p.tables e below (s₁.setTop (mkF m 3 #[.val (.int p0), .val (.int p1), .unset, .unset, .unset] [(.int (p0 + (1 : Int32)))])) t
    exact kt
  obtain ⟨nn, hnn⟩ : ∃ z, z = (p0 + (1 : Int32)) := ⟨_, rfl⟩
  rw [← hnn]
  refine own_go (T' := s₁) (f' := (mkF m 8 #[.val (.int p0), .val (.int p1), .val (.int nn), .unset, .unset] [(.int ((64 : Int32) / nn))])) (fun t kt => ?_) ?_
  · show Steps p.tables e below (s₁.setTop (mkF m 3 #[.val (.int p0), .val (.int p1), .unset, .unset, .unset] [(.int nn)])) t
    refine XS.istoreN X0.here hx rfl (hb hby d3_3) rfl (l' := #[.val (.int p0), .val (.int p1), .val (.int nn), .unset, .unset]) rfl ?_
    show Steps p.tables e below (s₁.setTop (mkF m 4 #[.val (.int p0), .val (.int p1), .val (.int nn), .unset, .unset] [])) t
    refine XS.bipush X0.here hx rfl (hb hby d3_4) ?_
    show Steps p.tables e below (s₁.setTop (mkF m 6 #[.val (.int p0), .val (.int p1), .val (.int nn), .unset, .unset] [(.int (64 : Int32))])) t
    refine XS.iloadN X0.here hx rfl (hb hby d3_6) rfl ?_
    show Steps p.tables e below (s₁.setTop (mkF m 7 #[.val (.int p0), .val (.int p1), .val (.int nn), .unset, .unset] [(.int nn), (.int (64 : Int32))])) t
    refine XS.idiv X0.here hx rfl (hb hby d3_7) rfl (own_nz (hnn ▸ hz) h0n) ?_
    show Steps p.tables e below (s₁.setTop (mkF m 8 #[.val (.int p0), .val (.int p1), .val (.int nn), .unset, .unset] [(.int ((64 : Int32) / nn))])) t
    exact kt
  obtain ⟨qq, hqq⟩ : ∃ z, z = ((64 : Int32) / nn) := ⟨_, rfl⟩
  rw [← hqq]
  refine own_go (T' := s₁) (f' := (mkF m 13 #[.val (.int p0), .val (.int p1), .val (.int nn), .val (.int qq), .unset] [(.int ((64 : Int32) % nn))])) (fun t kt => ?_) ?_
  · show Steps p.tables e below (s₁.setTop (mkF m 8 #[.val (.int p0), .val (.int p1), .val (.int nn), .unset, .unset] [(.int qq)])) t
    refine XS.istoreN X0.here hx rfl (hb hby d3_8) rfl (l' := #[.val (.int p0), .val (.int p1), .val (.int nn), .val (.int qq), .unset]) rfl ?_
    show Steps p.tables e below (s₁.setTop (mkF m 9 #[.val (.int p0), .val (.int p1), .val (.int nn), .val (.int qq), .unset] [])) t
    refine XS.bipush X0.here hx rfl (hb hby d3_9) ?_
    show Steps p.tables e below (s₁.setTop (mkF m 11 #[.val (.int p0), .val (.int p1), .val (.int nn), .val (.int qq), .unset] [(.int (64 : Int32))])) t
    refine XS.iloadN X0.here hx rfl (hb hby d3_11) rfl ?_
    show Steps p.tables e below (s₁.setTop (mkF m 12 #[.val (.int p0), .val (.int p1), .val (.int nn), .val (.int qq), .unset] [(.int nn), (.int (64 : Int32))])) t
    refine iremM X0 hx rfl (hb hby d3_12) rfl (own_nz (hnn ▸ hz) h0n) ?_
    show Steps p.tables e below (s₁.setTop (mkF m 13 #[.val (.int p0), .val (.int p1), .val (.int nn), .val (.int qq), .unset] [(.int ((64 : Int32) % nn))])) t
    exact kt
  obtain ⟨rr, hrr⟩ : ∃ z, z = ((64 : Int32) % nn) := ⟨_, rfl⟩
  rw [← hrr]
  refine own_go (T' := s₁) (f' := (mkF m 21 #[.val (.int p0), .val (.int p1), .val (.int nn), .val (.int qq), .val (.int rr)] [(.int rr), (.int p1), (.int (p1 * qq))])) (fun t kt => ?_) ?_
  · show Steps p.tables e below (s₁.setTop (mkF m 13 #[.val (.int p0), .val (.int p1), .val (.int nn), .val (.int qq), .unset] [(.int rr)])) t
    refine XS.istore X0.here hx rfl (hb hby d3_13) rfl (l' := #[.val (.int p0), .val (.int p1), .val (.int nn), .val (.int qq), .val (.int rr)]) rfl ?_
    show Steps p.tables e below (s₁.setTop (mkF m 15 #[.val (.int p0), .val (.int p1), .val (.int nn), .val (.int qq), .val (.int rr)] [])) t
    refine XS.iloadN X0.here hx rfl (hb hby d3_15) rfl ?_
    show Steps p.tables e below (s₁.setTop (mkF m 16 #[.val (.int p0), .val (.int p1), .val (.int nn), .val (.int qq), .val (.int rr)] [(.int p1)])) t
    refine XS.iloadN X0.here hx rfl (hb hby d3_16) rfl ?_
    show Steps p.tables e below (s₁.setTop (mkF m 17 #[.val (.int p0), .val (.int p1), .val (.int nn), .val (.int qq), .val (.int rr)] [(.int qq), (.int p1)])) t
    refine XS.imul X0.here hx rfl (hb hby d3_17) rfl ?_
    show Steps p.tables e below (s₁.setTop (mkF m 18 #[.val (.int p0), .val (.int p1), .val (.int nn), .val (.int qq), .val (.int rr)] [(.int (p1 * qq))])) t
    refine XS.iloadN X0.here hx rfl (hb hby d3_18) rfl ?_
    show Steps p.tables e below (s₁.setTop (mkF m 19 #[.val (.int p0), .val (.int p1), .val (.int nn), .val (.int qq), .val (.int rr)] [(.int p1), (.int (p1 * qq))])) t
    refine XS.iload X0.here hx rfl (hb hby d3_19) rfl ?_
    show Steps p.tables e below (s₁.setTop (mkF m 21 #[.val (.int p0), .val (.int p1), .val (.int nn), .val (.int qq), .val (.int rr)] [(.int rr), (.int p1), (.int (p1 * qq))])) t
    exact kt
  refine own_callSp X0 hx hZ hown e0 (hw _ (List.mem_of_getElem? (i := 25) rfl)) (hw _ (List.mem_of_getElem? (i := 26) rfl)) (hw _ (List.mem_of_getElem? (i := 27) rfl)) (hw _ (List.mem_of_getElem? (i := 28) rfl)) (by decide) (rm4 l Z aw hw p1 rr h0 n0 Z0) (g := (mkF m 21 #[.val (.int p0), .val (.int p1), .val (.int nn), .val (.int qq), .val (.int rr)] [(.int rr), (.int p1), (.int (p1 * qq))])) rfl (by rw [hml]; rfl) (argsL := [(.int p1), (.int rr)]) (rest := [(.int (p1 * qq))]) (lenOf pd_0 rfl) rfl rfl (W := 1) (by show 2 * 0 + _ ≤ _; exact Nat.le_of_eq rfl) (hb hby d3_21) (by decide) (by decide) (by decide) (by decide) ?_
  intro T1 X1 e1
  refine own_go (T' := T1) (f' := (mkF m 25 #[.val (.int p0), .val (.int p1), .val (.int nn), .val (.int qq), .val (.int rr)] [(.int ((p1 * qq) + (own_min p1 rr)))])) (fun t kt => ?_) ?_
  · show Steps p.tables e below (T1.setTop (mkF m 24 #[.val (.int p0), .val (.int p1), .val (.int nn), .val (.int qq), .val (.int rr)] [(.int (own_min p1 rr)), (.int (p1 * qq))])) t
    refine XS.iadd X1.here hx rfl (hb hby d3_24) rfl ?_
    show Steps p.tables e below (T1.setTop (mkF m 25 #[.val (.int p0), .val (.int p1), .val (.int nn), .val (.int qq), .val (.int rr)] [(.int ((p1 * qq) + (own_min p1 rr)))])) t
    exact kt
  exact own_retI X1 hP hx hlk e1 hret (hb hby d3_25) (by decide) (by decide) ⟨(congrArg (fun w => some (Value.int w)) (own_stv (hnn ▸ hz) h0n hn hi hin hqq hrr)), rfl, rfl⟩
theorem d5_0 : decode method_3_code 0 = .ok (.iload_n 0, 1) := by decide +kernel
theorem d5_1 : decode method_3_code 1 = .ok (.bipush 64, 2) := by decide +kernel
theorem d5_3 : decode method_3_code 3 = .ok (.if_icmp .lt 7, 3) := by decide +kernel
theorem d5_6 : decode method_3_code 6 = .ok (.ldc2_w 13, 3) := by decide +kernel
theorem d5_9 : decode method_3_code 9 = .ok (.lreturn, 1) := by decide +kernel
theorem d5_10 : decode method_3_code 10 = .ok (.lconst 1, 1) := by decide +kernel
theorem d5_11 : decode method_3_code 11 = .ok (.iload_n 0, 1) := by decide +kernel
theorem d5_12 : decode method_3_code 12 = .ok (.lshl, 1) := by decide +kernel
theorem d5_13 : decode method_3_code 13 = .ok (.lconst 1, 1) := by decide +kernel
theorem d5_14 : decode method_3_code 14 = .ok (.lsub, 1) := by decide +kernel
theorem d5_15 : decode method_3_code 15 = .ok (.lreturn, 1) := by decide +kernel
set_option maxRecDepth 65536 in
set_option maxHeartbeats 4000000 in
theorem ef_5 (m : MethodId) (p0 : Int32) : entryFrame m #[(.int p0)] 1 = mkF m 0 #[.val (.int p0)] [] := by first | (simp [entryFrame, mkF, argsToLocals, Value.category]; done) | rfl
set_option maxRecDepth 65536 in
set_option maxHeartbeats 40000000 in
theorem rm5 (l : Launch) (Z : State) (aw : Array Value) (hw : ∀ d ∈ tables_1, d.before aw Z = true) {ws : List Jvm.Cond} (p0 : Int32)  (h0 : Heap) (n0 : Nat) (Z0 : n0 ≤ h0.size)  :
    own_Met l Z (⟨"com/example/resemblr/resemblr/SimHashBlocksFirstSharedPinLaw", "lowBelow", "(I)J"⟩ : MethodName) method_3_code 1 (some .long) ws ({ frames := 0, cells := 0, slots := 0, locals := 0 } : Room) #[(.int p0)] h0 (own_Pq (some (.long (own_lw p0))) h0) := by
  refine own_body (plainFor_of_name pn_0) ?_
  intro p e s m below meth c s₁ hx hZ hby hml hown hnm hret hlk X0 e0
  replace hown : s.vm.findClass "com/example/resemblr/resemblr/SimHashBlocksFirstSharedPinLaw" = some m.cls := hown
  replace hml : c.maxLocals = 1 := hml
  obtain ⟨P, hP⟩ : ∃ P, P = own_P below s (own_Pq (some (.long (own_lw p0))) h0) ({ frames := 0, cells := 0, slots := 0, locals := 0 } : Room).cells ({ frames := 0, cells := 0, slots := 0, locals := 0 } : Room).slots := ⟨_, rfl⟩
  rw [← hP]
  refine own_cast (ef_5 m p0) ?_
  refine own_go (T' := s₁) (f' := (mkF m 3 #[.val (.int p0)] [(.int (64 : Int32)), (.int p0)])) (fun t kt => ?_) ?_
  · show Steps p.tables e below (s₁.setTop (mkF m 0 #[.val (.int p0)] [])) t
    refine XS.iloadN X0.here hx rfl (hb hby d5_0) rfl ?_
    show Steps p.tables e below (s₁.setTop (mkF m 1 #[.val (.int p0)] [(.int p0)])) t
    refine XS.bipush X0.here hx rfl (hb hby d5_1) ?_
    show Steps p.tables e below (s₁.setTop (mkF m 3 #[.val (.int p0)] [(.int (64 : Int32)), (.int p0)])) t
    exact kt
  by_cases hc3_1 : p0 < (64 : Int32)
  · refine own_go (T' := s₁) (f' := (mkF m 15 #[.val (.int p0)] [(.long (((1 : Int64) <<< (p0 &&& 0x3f).toInt64) - (1 : Int64)))])) (fun t kt => ?_) ?_
    · show Steps p.tables e below (s₁.setTop (mkF m 3 #[.val (.int p0)] [(.int (64 : Int32)), (.int p0)])) t
      refine XS.icmpYes X0.here hx rfl (pc0 := 3) (pc' := 10) rfl (hb hby d5_3) rfl (tlt hc3_1).1 (by decide) (by decide) ?_
      show Steps p.tables e below (s₁.setTop (mkF m 10 #[.val (.int p0)] [])) t
      refine XS.lconst X0.here hx rfl (hb hby d5_10) ?_
      show Steps p.tables e below (s₁.setTop (mkF m 11 #[.val (.int p0)] [(.long (1 : Int64))])) t
      refine XS.iloadN X0.here hx rfl (hb hby d5_11) rfl ?_
      show Steps p.tables e below (s₁.setTop (mkF m 12 #[.val (.int p0)] [(.int p0), (.long (1 : Int64))])) t
      refine XS.lshl X0.here hx rfl (hb hby d5_12) rfl ?_
      show Steps p.tables e below (s₁.setTop (mkF m 13 #[.val (.int p0)] [(.long ((1 : Int64) <<< (p0 &&& 0x3f).toInt64))])) t
      refine XS.lconst X0.here hx rfl (hb hby d5_13) ?_
      show Steps p.tables e below (s₁.setTop (mkF m 14 #[.val (.int p0)] [(.long (1 : Int64)), (.long ((1 : Int64) <<< (p0 &&& 0x3f).toInt64))])) t
      refine XS.lsub X0.here hx rfl (hb hby d5_14) rfl ?_
      show Steps p.tables e below (s₁.setTop (mkF m 15 #[.val (.int p0)] [(.long (((1 : Int64) <<< (p0 &&& 0x3f).toInt64) - (1 : Int64)))])) t
      exact kt
    exact own_retJ X0 hP hx hlk e0 hret (hb hby d5_15) (by decide) (by decide) ⟨(by rw [own_lw, if_pos hc3_1]), rfl, rfl⟩
  · refine own_go (T' := s₁) (f' := (mkF m 9 #[.val (.int p0)] [(.long (-1 : Int64))])) (fun t kt => ?_) ?_
    · show Steps p.tables e below (s₁.setTop (mkF m 3 #[.val (.int p0)] [(.int (64 : Int32)), (.int p0)])) t
      refine XS.icmpNo X0.here hx rfl (hb hby d5_3) rfl (flt hc3_1).1 ?_
      show Steps p.tables e below (s₁.setTop (mkF m 6 #[.val (.int p0)] [])) t
      refine X0.ldc2Long hx hown (mvT hZ (hw _ (List.mem_of_getElem? (i := 32) rfl))) (g := (mkF m 6 #[.val (.int p0)] [])) rfl (hb hby d5_6) _ ?_
      show Steps p.tables e below (s₁.setTop (mkF m 9 #[.val (.int p0)] [(.long (-1 : Int64))])) t
      exact kt
    exact own_retJ X0 hP hx hlk e0 hret (hb hby d5_9) (by decide) (by decide) ⟨(by rw [own_lw, if_neg hc3_1]), rfl, rfl⟩
theorem d7_0 : decode method_4_code 0 = .ok (.iload_n 0, 1) := by decide +kernel
theorem d7_1 : decode method_4_code 1 = .ok (.iload_n 1, 1) := by decide +kernel
theorem d7_2 : decode method_4_code 2 = .ok (.invokestatic 15, 3) := by decide +kernel
theorem d7_5 : decode method_4_code 5 = .ok (.istore_n 2, 1) := by decide +kernel
theorem d7_6 : decode method_4_code 6 = .ok (.iload_n 0, 1) := by decide +kernel
theorem d7_7 : decode method_4_code 7 = .ok (.iload_n 1, 1) := by decide +kernel
theorem d7_8 : decode method_4_code 8 = .ok (.iconst 1, 1) := by decide +kernel
theorem d7_9 : decode method_4_code 9 = .ok (.iadd, 1) := by decide +kernel
theorem d7_10 : decode method_4_code 10 = .ok (.invokestatic 15, 3) := by decide +kernel
theorem d7_13 : decode method_4_code 13 = .ok (.istore_n 3, 1) := by decide +kernel
theorem d7_14 : decode method_4_code 14 = .ok (.iload_n 3, 1) := by decide +kernel
theorem d7_15 : decode method_4_code 15 = .ok (.iload_n 2, 1) := by decide +kernel
theorem d7_16 : decode method_4_code 16 = .ok (.isub, 1) := by decide +kernel
theorem d7_17 : decode method_4_code 17 = .ok (.istore 4, 2) := by decide +kernel
theorem d7_19 : decode method_4_code 19 = .ok (.iload 4, 2) := by decide +kernel
theorem d7_21 : decode method_4_code 21 = .ok (.bipush 64, 2) := by decide +kernel
theorem d7_23 : decode method_4_code 23 = .ok (.if_icmp .lt 7, 3) := by decide +kernel
theorem d7_26 : decode method_4_code 26 = .ok (.ldc2_w 13, 3) := by decide +kernel
theorem d7_29 : decode method_4_code 29 = .ok (.lreturn, 1) := by decide +kernel
theorem d7_30 : decode method_4_code 30 = .ok (.lconst 1, 1) := by decide +kernel
theorem d7_31 : decode method_4_code 31 = .ok (.iload 4, 2) := by decide +kernel
theorem d7_33 : decode method_4_code 33 = .ok (.lshl, 1) := by decide +kernel
theorem d7_34 : decode method_4_code 34 = .ok (.lconst 1, 1) := by decide +kernel
theorem d7_35 : decode method_4_code 35 = .ok (.lsub, 1) := by decide +kernel
theorem d7_36 : decode method_4_code 36 = .ok (.iload_n 2, 1) := by decide +kernel
theorem d7_37 : decode method_4_code 37 = .ok (.lshl, 1) := by decide +kernel
theorem d7_38 : decode method_4_code 38 = .ok (.lreturn, 1) := by decide +kernel
set_option maxRecDepth 65536 in
set_option maxHeartbeats 4000000 in
theorem ef_7 (m : MethodId) (p0 : Int32) (p1 : Int32) : entryFrame m #[(.int p0), (.int p1)] 5 = mkF m 0 #[.val (.int p0), .val (.int p1), .unset, .unset, .unset] [] := by first | (simp [entryFrame, mkF, argsToLocals, Value.category]; done) | rfl
set_option maxRecDepth 65536 in
set_option maxHeartbeats 40000000 in
theorem rm7 (l : Launch) (Z : State) (aw : Array Value) (hw : ∀ d ∈ tables_1, d.before aw Z = true) {ws : List Jvm.Cond} (p0 : Int32) (p1 : Int32) (n : Nat) (i : Nat) (h0 : Heap) (n0 : Nat) (Z0 : n0 ≤ h0.size) (hz : (p0 + (1 : Int32)).toInt = (n : Int)) (h0n : 0 < n) (hn : n ≤ 64) (hi : p1.toInt = (i : Int)) (hin : i < n) :
    own_Met l Z (⟨"com/example/resemblr/resemblr/SimHashBlocksFirstSharedPinLaw", "maskOf", "(II)J"⟩ : MethodName) method_4_code 5 (some .long) ws ({ frames := 2, cells := 0, slots := 0, locals := 30 } : Room) #[(.int p0), (.int p1)] h0 (own_Pq (some (.long (own_mkv (Int32.ofNat (own_st n i)) ((Int32.ofNat (own_st n (i + 1))) - (Int32.ofNat (own_st n i)))))) h0) := by
  refine own_body (plainFor_of_name pn_0) ?_
  intro p e s m below meth c s₁ hx hZ hby hml hown hnm hret hlk X0 e0
  replace hown : s.vm.findClass "com/example/resemblr/resemblr/SimHashBlocksFirstSharedPinLaw" = some m.cls := hown
  replace hml : c.maxLocals = 5 := hml
  obtain ⟨P, hP⟩ : ∃ P, P = own_P below s (own_Pq (some (.long (own_mkv (Int32.ofNat (own_st n i)) ((Int32.ofNat (own_st n (i + 1))) - (Int32.ofNat (own_st n i)))))) h0) ({ frames := 2, cells := 0, slots := 0, locals := 30 } : Room).cells ({ frames := 2, cells := 0, slots := 0, locals := 30 } : Room).slots := ⟨_, rfl⟩
  rw [← hP]
  refine own_cast (ef_7 m p0 p1) ?_
  refine own_go (T' := s₁) (f' := (mkF m 2 #[.val (.int p0), .val (.int p1), .unset, .unset, .unset] [(.int p1), (.int p0)])) (fun t kt => ?_) ?_
  · show Steps p.tables e below (s₁.setTop (mkF m 0 #[.val (.int p0), .val (.int p1), .unset, .unset, .unset] [])) t
    refine XS.iloadN X0.here hx rfl (hb hby d7_0) rfl ?_
    show Steps p.tables e below (s₁.setTop (mkF m 1 #[.val (.int p0), .val (.int p1), .unset, .unset, .unset] [(.int p0)])) t
    refine XS.iloadN X0.here hx rfl (hb hby d7_1) rfl ?_
    show Steps p.tables e below (s₁.setTop (mkF m 2 #[.val (.int p0), .val (.int p1), .unset, .unset, .unset] [(.int p1), (.int p0)])) t
    exact kt
  refine own_callSp X0 hx hZ hown e0 (hw _ (List.mem_of_getElem? (i := 21) rfl)) (hw _ (List.mem_of_getElem? (i := 22) rfl)) (hw _ (List.mem_of_getElem? (i := 23) rfl)) (hw _ (List.mem_of_getElem? (i := 24) rfl)) (by decide) (rm3 l Z aw hw p0 p1 n i h0 n0 Z0 hz h0n hn hi (by omega)) (g := (mkF m 2 #[.val (.int p0), .val (.int p1), .unset, .unset, .unset] [(.int p1), (.int p0)])) rfl (by rw [hml]; rfl) (argsL := [(.int p0), (.int p1)]) (rest := []) (lenOf pd_0 rfl) rfl rfl (W := 0) (by show 2 * 0 + _ ≤ _; exact Nat.le_of_eq rfl) (hb hby d7_2) (by decide) (by decide) (by decide) (by decide) ?_
  intro T1 X1 e1
  refine own_go (T' := T1) (f' := (mkF m 10 #[.val (.int p0), .val (.int p1), .val (.int (Int32.ofNat (own_st n i))), .unset, .unset] [(.int (p1 + (1 : Int32))), (.int p0)])) (fun t kt => ?_) ?_
  · show Steps p.tables e below (T1.setTop (mkF m 5 #[.val (.int p0), .val (.int p1), .unset, .unset, .unset] [(.int (Int32.ofNat (own_st n i)))])) t
    refine XS.istoreN X1.here hx rfl (hb hby d7_5) rfl (l' := #[.val (.int p0), .val (.int p1), .val (.int (Int32.ofNat (own_st n i))), .unset, .unset]) rfl ?_
    show Steps p.tables e below (T1.setTop (mkF m 6 #[.val (.int p0), .val (.int p1), .val (.int (Int32.ofNat (own_st n i))), .unset, .unset] [])) t
    refine XS.iloadN X1.here hx rfl (hb hby d7_6) rfl ?_
    show Steps p.tables e below (T1.setTop (mkF m 7 #[.val (.int p0), .val (.int p1), .val (.int (Int32.ofNat (own_st n i))), .unset, .unset] [(.int p0)])) t
    refine XS.iloadN X1.here hx rfl (hb hby d7_7) rfl ?_
    show Steps p.tables e below (T1.setTop (mkF m 8 #[.val (.int p0), .val (.int p1), .val (.int (Int32.ofNat (own_st n i))), .unset, .unset] [(.int p1), (.int p0)])) t
    refine XS.iconst X1.here hx rfl (hb hby d7_8) ?_
    show Steps p.tables e below (T1.setTop (mkF m 9 #[.val (.int p0), .val (.int p1), .val (.int (Int32.ofNat (own_st n i))), .unset, .unset] [(.int (1 : Int32)), (.int p1), (.int p0)])) t
    refine XS.iadd X1.here hx rfl (hb hby d7_9) rfl ?_
    show Steps p.tables e below (T1.setTop (mkF m 10 #[.val (.int p0), .val (.int p1), .val (.int (Int32.ofNat (own_st n i))), .unset, .unset] [(.int (p1 + (1 : Int32))), (.int p0)])) t
    exact kt
  refine own_callSp X1 hx hZ hown e1 (hw _ (List.mem_of_getElem? (i := 21) rfl)) (hw _ (List.mem_of_getElem? (i := 22) rfl)) (hw _ (List.mem_of_getElem? (i := 23) rfl)) (hw _ (List.mem_of_getElem? (i := 24) rfl)) (by decide) (rm3 l Z aw hw p0 (p1 + (1 : Int32)) n (i + 1) h0 n0 Z0 hz h0n hn (own_inc hi (by omega)) (by omega)) (g := (mkF m 10 #[.val (.int p0), .val (.int p1), .val (.int (Int32.ofNat (own_st n i))), .unset, .unset] [(.int (p1 + (1 : Int32))), (.int p0)])) rfl (by rw [hml]; rfl) (argsL := [(.int p0), (.int (p1 + (1 : Int32)))]) (rest := []) (lenOf pd_0 rfl) rfl rfl (W := 0) (by show 2 * 0 + _ ≤ _; exact Nat.le_of_eq rfl) (hb hby d7_10) (by decide) (by decide) (by decide) (by decide) ?_
  intro T2 X2 e2
  refine own_go (T' := T2) (f' := (mkF m 23 #[.val (.int p0), .val (.int p1), .val (.int (Int32.ofNat (own_st n i))), .val (.int (Int32.ofNat (own_st n (i + 1)))), .val (.int ((Int32.ofNat (own_st n (i + 1))) - (Int32.ofNat (own_st n i))))] [(.int (64 : Int32)), (.int ((Int32.ofNat (own_st n (i + 1))) - (Int32.ofNat (own_st n i))))])) (fun t kt => ?_) ?_
  · show Steps p.tables e below (T2.setTop (mkF m 13 #[.val (.int p0), .val (.int p1), .val (.int (Int32.ofNat (own_st n i))), .unset, .unset] [(.int (Int32.ofNat (own_st n (i + 1))))])) t
    refine XS.istoreN X2.here hx rfl (hb hby d7_13) rfl (l' := #[.val (.int p0), .val (.int p1), .val (.int (Int32.ofNat (own_st n i))), .val (.int (Int32.ofNat (own_st n (i + 1)))), .unset]) rfl ?_
    show Steps p.tables e below (T2.setTop (mkF m 14 #[.val (.int p0), .val (.int p1), .val (.int (Int32.ofNat (own_st n i))), .val (.int (Int32.ofNat (own_st n (i + 1)))), .unset] [])) t
    refine XS.iloadN X2.here hx rfl (hb hby d7_14) rfl ?_
    show Steps p.tables e below (T2.setTop (mkF m 15 #[.val (.int p0), .val (.int p1), .val (.int (Int32.ofNat (own_st n i))), .val (.int (Int32.ofNat (own_st n (i + 1)))), .unset] [(.int (Int32.ofNat (own_st n (i + 1))))])) t
    refine XS.iloadN X2.here hx rfl (hb hby d7_15) rfl ?_
    show Steps p.tables e below (T2.setTop (mkF m 16 #[.val (.int p0), .val (.int p1), .val (.int (Int32.ofNat (own_st n i))), .val (.int (Int32.ofNat (own_st n (i + 1)))), .unset] [(.int (Int32.ofNat (own_st n i))), (.int (Int32.ofNat (own_st n (i + 1))))])) t
    refine XS.isub X2.here hx rfl (hb hby d7_16) rfl ?_
    show Steps p.tables e below (T2.setTop (mkF m 17 #[.val (.int p0), .val (.int p1), .val (.int (Int32.ofNat (own_st n i))), .val (.int (Int32.ofNat (own_st n (i + 1)))), .unset] [(.int ((Int32.ofNat (own_st n (i + 1))) - (Int32.ofNat (own_st n i))))])) t
    refine XS.istore X2.here hx rfl (hb hby d7_17) rfl (l' := #[.val (.int p0), .val (.int p1), .val (.int (Int32.ofNat (own_st n i))), .val (.int (Int32.ofNat (own_st n (i + 1)))), .val (.int ((Int32.ofNat (own_st n (i + 1))) - (Int32.ofNat (own_st n i))))]) rfl ?_
    show Steps p.tables e below (T2.setTop (mkF m 19 #[.val (.int p0), .val (.int p1), .val (.int (Int32.ofNat (own_st n i))), .val (.int (Int32.ofNat (own_st n (i + 1)))), .val (.int ((Int32.ofNat (own_st n (i + 1))) - (Int32.ofNat (own_st n i))))] [])) t
    refine XS.iload X2.here hx rfl (hb hby d7_19) rfl ?_
    show Steps p.tables e below (T2.setTop (mkF m 21 #[.val (.int p0), .val (.int p1), .val (.int (Int32.ofNat (own_st n i))), .val (.int (Int32.ofNat (own_st n (i + 1)))), .val (.int ((Int32.ofNat (own_st n (i + 1))) - (Int32.ofNat (own_st n i))))] [(.int ((Int32.ofNat (own_st n (i + 1))) - (Int32.ofNat (own_st n i))))])) t
    refine XS.bipush X2.here hx rfl (hb hby d7_21) ?_
    show Steps p.tables e below (T2.setTop (mkF m 23 #[.val (.int p0), .val (.int p1), .val (.int (Int32.ofNat (own_st n i))), .val (.int (Int32.ofNat (own_st n (i + 1)))), .val (.int ((Int32.ofNat (own_st n (i + 1))) - (Int32.ofNat (own_st n i))))] [(.int (64 : Int32)), (.int ((Int32.ofNat (own_st n (i + 1))) - (Int32.ofNat (own_st n i))))])) t
    exact kt
  by_cases hc23_3 : ((Int32.ofNat (own_st n (i + 1))) - (Int32.ofNat (own_st n i))) < (64 : Int32)
  · refine own_go (T' := T2) (f' := (mkF m 38 #[.val (.int p0), .val (.int p1), .val (.int (Int32.ofNat (own_st n i))), .val (.int (Int32.ofNat (own_st n (i + 1)))), .val (.int ((Int32.ofNat (own_st n (i + 1))) - (Int32.ofNat (own_st n i))))] [(.long ((((1 : Int64) <<< (((Int32.ofNat (own_st n (i + 1))) - (Int32.ofNat (own_st n i))) &&& 0x3f).toInt64) - (1 : Int64)) <<< ((Int32.ofNat (own_st n i)) &&& 0x3f).toInt64))])) (fun t kt => ?_) ?_
    · show Steps p.tables e below (T2.setTop (mkF m 23 #[.val (.int p0), .val (.int p1), .val (.int (Int32.ofNat (own_st n i))), .val (.int (Int32.ofNat (own_st n (i + 1)))), .val (.int ((Int32.ofNat (own_st n (i + 1))) - (Int32.ofNat (own_st n i))))] [(.int (64 : Int32)), (.int ((Int32.ofNat (own_st n (i + 1))) - (Int32.ofNat (own_st n i))))])) t
      refine XS.icmpYes X2.here hx rfl (pc0 := 23) (pc' := 30) rfl (hb hby d7_23) rfl (tlt hc23_3).1 (by decide) (by decide) ?_
      show Steps p.tables e below (T2.setTop (mkF m 30 #[.val (.int p0), .val (.int p1), .val (.int (Int32.ofNat (own_st n i))), .val (.int (Int32.ofNat (own_st n (i + 1)))), .val (.int ((Int32.ofNat (own_st n (i + 1))) - (Int32.ofNat (own_st n i))))] [])) t
      refine XS.lconst X2.here hx rfl (hb hby d7_30) ?_
      show Steps p.tables e below (T2.setTop (mkF m 31 #[.val (.int p0), .val (.int p1), .val (.int (Int32.ofNat (own_st n i))), .val (.int (Int32.ofNat (own_st n (i + 1)))), .val (.int ((Int32.ofNat (own_st n (i + 1))) - (Int32.ofNat (own_st n i))))] [(.long (1 : Int64))])) t
      refine XS.iload X2.here hx rfl (hb hby d7_31) rfl ?_
      show Steps p.tables e below (T2.setTop (mkF m 33 #[.val (.int p0), .val (.int p1), .val (.int (Int32.ofNat (own_st n i))), .val (.int (Int32.ofNat (own_st n (i + 1)))), .val (.int ((Int32.ofNat (own_st n (i + 1))) - (Int32.ofNat (own_st n i))))] [(.int ((Int32.ofNat (own_st n (i + 1))) - (Int32.ofNat (own_st n i)))), (.long (1 : Int64))])) t
      refine XS.lshl X2.here hx rfl (hb hby d7_33) rfl ?_
      show Steps p.tables e below (T2.setTop (mkF m 34 #[.val (.int p0), .val (.int p1), .val (.int (Int32.ofNat (own_st n i))), .val (.int (Int32.ofNat (own_st n (i + 1)))), .val (.int ((Int32.ofNat (own_st n (i + 1))) - (Int32.ofNat (own_st n i))))] [(.long ((1 : Int64) <<< (((Int32.ofNat (own_st n (i + 1))) - (Int32.ofNat (own_st n i))) &&& 0x3f).toInt64))])) t
      refine XS.lconst X2.here hx rfl (hb hby d7_34) ?_
      show Steps p.tables e below (T2.setTop (mkF m 35 #[.val (.int p0), .val (.int p1), .val (.int (Int32.ofNat (own_st n i))), .val (.int (Int32.ofNat (own_st n (i + 1)))), .val (.int ((Int32.ofNat (own_st n (i + 1))) - (Int32.ofNat (own_st n i))))] [(.long (1 : Int64)), (.long ((1 : Int64) <<< (((Int32.ofNat (own_st n (i + 1))) - (Int32.ofNat (own_st n i))) &&& 0x3f).toInt64))])) t
      refine XS.lsub X2.here hx rfl (hb hby d7_35) rfl ?_
      show Steps p.tables e below (T2.setTop (mkF m 36 #[.val (.int p0), .val (.int p1), .val (.int (Int32.ofNat (own_st n i))), .val (.int (Int32.ofNat (own_st n (i + 1)))), .val (.int ((Int32.ofNat (own_st n (i + 1))) - (Int32.ofNat (own_st n i))))] [(.long (((1 : Int64) <<< (((Int32.ofNat (own_st n (i + 1))) - (Int32.ofNat (own_st n i))) &&& 0x3f).toInt64) - (1 : Int64)))])) t
      refine XS.iloadN X2.here hx rfl (hb hby d7_36) rfl ?_
      show Steps p.tables e below (T2.setTop (mkF m 37 #[.val (.int p0), .val (.int p1), .val (.int (Int32.ofNat (own_st n i))), .val (.int (Int32.ofNat (own_st n (i + 1)))), .val (.int ((Int32.ofNat (own_st n (i + 1))) - (Int32.ofNat (own_st n i))))] [(.int (Int32.ofNat (own_st n i))), (.long (((1 : Int64) <<< (((Int32.ofNat (own_st n (i + 1))) - (Int32.ofNat (own_st n i))) &&& 0x3f).toInt64) - (1 : Int64)))])) t
      refine XS.lshl X2.here hx rfl (hb hby d7_37) rfl ?_
      show Steps p.tables e below (T2.setTop (mkF m 38 #[.val (.int p0), .val (.int p1), .val (.int (Int32.ofNat (own_st n i))), .val (.int (Int32.ofNat (own_st n (i + 1)))), .val (.int ((Int32.ofNat (own_st n (i + 1))) - (Int32.ofNat (own_st n i))))] [(.long ((((1 : Int64) <<< (((Int32.ofNat (own_st n (i + 1))) - (Int32.ofNat (own_st n i))) &&& 0x3f).toInt64) - (1 : Int64)) <<< ((Int32.ofNat (own_st n i)) &&& 0x3f).toInt64))])) t
      exact kt
    exact own_retJ X2 hP hx hlk e2 hret (hb hby d7_38) (by decide) (by decide) ⟨(by rw [own_mkv, if_pos hc23_3]), rfl, rfl⟩
  · refine own_go (T' := T2) (f' := (mkF m 29 #[.val (.int p0), .val (.int p1), .val (.int (Int32.ofNat (own_st n i))), .val (.int (Int32.ofNat (own_st n (i + 1)))), .val (.int ((Int32.ofNat (own_st n (i + 1))) - (Int32.ofNat (own_st n i))))] [(.long (-1 : Int64))])) (fun t kt => ?_) ?_
    · show Steps p.tables e below (T2.setTop (mkF m 23 #[.val (.int p0), .val (.int p1), .val (.int (Int32.ofNat (own_st n i))), .val (.int (Int32.ofNat (own_st n (i + 1)))), .val (.int ((Int32.ofNat (own_st n (i + 1))) - (Int32.ofNat (own_st n i))))] [(.int (64 : Int32)), (.int ((Int32.ofNat (own_st n (i + 1))) - (Int32.ofNat (own_st n i))))])) t
      refine XS.icmpNo X2.here hx rfl (hb hby d7_23) rfl (flt hc23_3).1 ?_
      show Steps p.tables e below (T2.setTop (mkF m 26 #[.val (.int p0), .val (.int p1), .val (.int (Int32.ofNat (own_st n i))), .val (.int (Int32.ofNat (own_st n (i + 1)))), .val (.int ((Int32.ofNat (own_st n (i + 1))) - (Int32.ofNat (own_st n i))))] [])) t
      refine X2.ldc2Long hx hown (mvT hZ (hw _ (List.mem_of_getElem? (i := 32) rfl))) (g := (mkF m 26 #[.val (.int p0), .val (.int p1), .val (.int (Int32.ofNat (own_st n i))), .val (.int (Int32.ofNat (own_st n (i + 1)))), .val (.int ((Int32.ofNat (own_st n (i + 1))) - (Int32.ofNat (own_st n i))))] [])) rfl (hb hby d7_26) _ ?_
      show Steps p.tables e below (T2.setTop (mkF m 29 #[.val (.int p0), .val (.int p1), .val (.int (Int32.ofNat (own_st n i))), .val (.int (Int32.ofNat (own_st n (i + 1)))), .val (.int ((Int32.ofNat (own_st n (i + 1))) - (Int32.ofNat (own_st n i))))] [(.long (-1 : Int64))])) t
      exact kt
    exact own_retJ X2 hP hx hlk e2 hret (hb hby d7_29) (by decide) (by decide) ⟨(by rw [own_mkv, if_neg hc23_3]), rfl, rfl⟩
theorem pn_1 : plainName "com/example/resemblr/resemblr/SimHashBlocks" = true := by first | (simp [plainName, overriddenIn]; done) | decide +kernel
theorem d6_0 : decode prog_24_method_6_code 0 = .ok (.lload_n 1, 1) := by decide +kernel
theorem d6_1 : decode prog_24_method_6_code 1 = .ok (.lload_n 3, 1) := by decide +kernel
theorem d6_2 : decode prog_24_method_6_code 2 = .ok (.lxor, 1) := by decide +kernel
theorem d6_3 : decode prog_24_method_6_code 3 = .ok (.lstore 5, 2) := by decide +kernel
theorem d6_5 : decode prog_24_method_6_code 5 = .ok (.iconst 0, 1) := by decide +kernel
theorem d6_6 : decode prog_24_method_6_code 6 = .ok (.istore 7, 2) := by decide +kernel
theorem d6_8 : decode prog_24_method_6_code 8 = .ok (.iload 7, 2) := by decide +kernel
theorem d6_10 : decode prog_24_method_6_code 10 = .ok (.aload_n 0, 1) := by decide +kernel
theorem d6_11 : decode prog_24_method_6_code 11 = .ok (.getfield 22, 3) := by decide +kernel
theorem d6_14 : decode prog_24_method_6_code 14 = .ok (.arraylength, 1) := by decide +kernel
theorem d6_15 : decode prog_24_method_6_code 15 = .ok (.if_icmp .ge 24, 3) := by decide +kernel
theorem d6_18 : decode prog_24_method_6_code 18 = .ok (.lload 5, 2) := by decide +kernel
theorem d6_20 : decode prog_24_method_6_code 20 = .ok (.aload_n 0, 1) := by decide +kernel
theorem d6_21 : decode prog_24_method_6_code 21 = .ok (.getfield 22, 3) := by decide +kernel
theorem d6_24 : decode prog_24_method_6_code 24 = .ok (.iload 7, 2) := by decide +kernel
theorem d6_26 : decode prog_24_method_6_code 26 = .ok (.laload, 1) := by decide +kernel
theorem d6_27 : decode prog_24_method_6_code 27 = .ok (.land, 1) := by decide +kernel
theorem d6_28 : decode prog_24_method_6_code 28 = .ok (.lconst 0, 1) := by decide +kernel
theorem d6_29 : decode prog_24_method_6_code 29 = .ok (.lcmp, 1) := by decide +kernel
theorem d6_30 : decode prog_24_method_6_code 30 = .ok (.ifCond .eq 9, 3) := by decide +kernel
theorem d6_33 : decode prog_24_method_6_code 33 = .ok (.iinc 7 1, 3) := by decide +kernel
theorem d6_36 : decode prog_24_method_6_code 36 = .ok (.goto (-28), 3) := by decide +kernel
theorem d6_39 : decode prog_24_method_6_code 39 = .ok (.iload 7, 2) := by decide +kernel
theorem d6_41 : decode prog_24_method_6_code 41 = .ok (.ireturn, 1) := by decide +kernel
set_option maxRecDepth 65536 in
set_option maxHeartbeats 4000000 in
theorem ef_6 (m : MethodId) (a0 : Addr) (q1 : Int64) (q2 : Int64) : entryFrame m #[(.ref a0), (.long q1), (.long q2)] 8 = mkF m 0 #[.val (.ref a0), .val (.long q1), .second, .val (.long q2), .second, .unset, .unset, .unset] [] := by first | (simp [entryFrame, mkF, argsToLocals, Value.category]; done) | rfl
set_option maxRecDepth 65536 in
set_option maxHeartbeats 40000000 in
theorem rm6 (l : Launch) (Z : State) (aw : Array Value) (hw : ∀ d ∈ tables_1, d.before aw Z = true) {ws : List Jvm.Cond} (a0 : Addr) (q1 : Int64) (q2 : Int64) (w0 : Addr) (n : Nat) (f : Nat → Int64) (z : Int32) (h0 : Heap) (n0 : Nat) (Z0 : n0 ≤ h0.size) (F_a0_masks : Fld Z h0 a0 "com/example/resemblr/resemblr/SimHashBlocks" "masks" "[J" (.ref w0)) (Ar_w0 : own_AJ Z h0 w0 n f) (hz : z.toInt = (n : Int)) (hn : n ≤ 64) :
    own_Met l Z (⟨"com/example/resemblr/resemblr/SimHashBlocks", "firstShared", "(JJ)I"⟩ : MethodName) prog_24_method_6_code 8 (some .int) ws ({ frames := 0, cells := 0, slots := 0, locals := 0 } : Room) #[(.ref a0), (.long q1), (.long q2)] h0 (own_Pq (some (.int (Int32.ofNat (own_scan f (q1 ^^^ q2) n 0)))) h0) := by
  refine own_body (plainFor_of_name pn_1) ?_
  intro p e s m below meth c s₁ hx hZ hby hml hown hnm hret hlk X0 e0
  replace hown : s.vm.findClass "com/example/resemblr/resemblr/SimHashBlocks" = some m.cls := hown
  replace hml : c.maxLocals = 8 := hml
  obtain ⟨P, hP⟩ : ∃ P, P = own_P below s (own_Pq (some (.int (Int32.ofNat (own_scan f (q1 ^^^ q2) n 0)))) h0) ({ frames := 0, cells := 0, slots := 0, locals := 0 } : Room).cells ({ frames := 0, cells := 0, slots := 0, locals := 0 } : Room).slots := ⟨_, rfl⟩
  rw [← hP]
  refine own_cast (ef_6 m a0 q1 q2) ?_
  refine own_go (T' := s₁) (f' := (mkF m 3 #[.val (.ref a0), .val (.long q1), .second, .val (.long q2), .second, .unset, .unset, .unset] [(.long (q1 ^^^ q2))])) (fun t kt => ?_) ?_
  · show Steps p.tables e below (s₁.setTop (mkF m 0 #[.val (.ref a0), .val (.long q1), .second, .val (.long q2), .second, .unset, .unset, .unset] [])) t
    refine XS.lloadN X0.here hx rfl (hb hby d6_0) rfl ?_
    show Steps p.tables e below (s₁.setTop (mkF m 1 #[.val (.ref a0), .val (.long q1), .second, .val (.long q2), .second, .unset, .unset, .unset] [(.long q1)])) t
    refine XS.lloadN X0.here hx rfl (hb hby d6_1) rfl ?_
    show Steps p.tables e below (s₁.setTop (mkF m 2 #[.val (.ref a0), .val (.long q1), .second, .val (.long q2), .second, .unset, .unset, .unset] [(.long q2), (.long q1)])) t
    refine XS.lxor X0.here hx rfl (hb hby d6_2) rfl ?_
    show Steps p.tables e below (s₁.setTop (mkF m 3 #[.val (.ref a0), .val (.long q1), .second, .val (.long q2), .second, .unset, .unset, .unset] [(.long (q1 ^^^ q2))])) t
    exact kt
  obtain ⟨xx, hxx⟩ : ∃ z, z = (q1 ^^^ q2) := ⟨_, rfl⟩
  rw [← hxx]
  refine own_go (T' := s₁) (f' := (mkF m 8 #[.val (.ref a0), .val (.long q1), .second, .val (.long q2), .second, .val (.long xx), .second, .val (.int (0 : Int32))] [])) (fun t kt => ?_) ?_
  · show Steps p.tables e below (s₁.setTop (mkF m 3 #[.val (.ref a0), .val (.long q1), .second, .val (.long q2), .second, .unset, .unset, .unset] [(.long xx)])) t
    refine XS.lstore X0.here hx rfl (hb hby d6_3) rfl (l' := #[.val (.ref a0), .val (.long q1), .second, .val (.long q2), .second, .val (.long xx), .second, .unset]) rfl ?_
    show Steps p.tables e below (s₁.setTop (mkF m 5 #[.val (.ref a0), .val (.long q1), .second, .val (.long q2), .second, .val (.long xx), .second, .unset] [])) t
    refine XS.iconst X0.here hx rfl (hb hby d6_5) ?_
    show Steps p.tables e below (s₁.setTop (mkF m 6 #[.val (.ref a0), .val (.long q1), .second, .val (.long q2), .second, .val (.long xx), .second, .unset] [(.int (0 : Int32))])) t
    refine XS.istore X0.here hx rfl (hb hby d6_6) rfl (l' := #[.val (.ref a0), .val (.long q1), .second, .val (.long q2), .second, .val (.long xx), .second, .val (.int (0 : Int32))]) rfl ?_
    show Steps p.tables e below (s₁.setTop (mkF m 8 #[.val (.ref a0), .val (.long q1), .second, .val (.long q2), .second, .val (.long xx), .second, .val (.int (0 : Int32))] [])) t
    exact kt
  have J8 : ∀ (mk : Nat) (Tj1 : State) (lj1 : List Loc) (ii : Int32) (kk : Nat) (Xj1 : Stand p l e ({ frames := 0, cells := 0, slots := 0, locals := 0 } : Room) s m #[(.ref a0), (.long q1), (.long q2)] below meth c Tj1 lj1 0 0) (Nj1 : lj1 = []) (ej1 : Tj1.heap = h0) (hii : ii.toInt = (kk : Int)) (hkn : kk ≤ n) (hsc : own_scan f xx (n - kk) kk = own_scan f xx n 0) (hmk : mk = n - kk), own_End p e below P Tj1 (mkF m 8 #[.val (.ref a0), .val (.long q1), .second, .val (.long q2), .second, .val (.long xx), .second, .val (.int ii)] []) := by
    intro mk
    induction mk using Nat.strongRecOn with
    | _ mk IHJ8 =>
    intro Tj1 lj1 ii kk Xj1 Nj1 ej1 hii hkn hsc hmk
    subst Nj1
    refine own_go (T' := Tj1) (f' := (mkF m 11 #[.val (.ref a0), .val (.long q1), .second, .val (.long q2), .second, .val (.long xx), .second, .val (.int ii)] [(.ref a0), (.int ii)])) (fun t kt => ?_) ?_
    · show Steps p.tables e below (Tj1.setTop (mkF m 8 #[.val (.ref a0), .val (.long q1), .second, .val (.long q2), .second, .val (.long xx), .second, .val (.int ii)] [])) t
      refine XS.iload Xj1.here hx rfl (hb hby d6_8) rfl ?_
      show Steps p.tables e below (Tj1.setTop (mkF m 10 #[.val (.ref a0), .val (.long q1), .second, .val (.long q2), .second, .val (.long xx), .second, .val (.int ii)] [(.int ii)])) t
      refine XS.aloadN Xj1.here hx rfl (hb hby d6_10) rfl rfl ?_
      show Steps p.tables e below (Tj1.setTop (mkF m 11 #[.val (.ref a0), .val (.long q1), .second, .val (.long q2), .second, .val (.long xx), .second, .val (.int ii)] [(.ref a0), (.int ii)])) t
      exact kt
    obtain ⟨T2, X2, e2, st2⟩ := getF Xj1 hx hZ hown (host := "") (Or.inl (hw _ (List.mem_of_getElem? (i := 13) rfl))) Via.refl ej1 F_a0_masks (g := (mkF m 11 #[.val (.ref a0), .val (.long q1), .second, .val (.long q2), .second, .val (.long xx), .second, .val (.int ii)] [(.ref a0), (.int ii)])) rfl rfl (hb hby d6_11)
    refine own_go st2 ?_
    have st3 := own_length X2 hx hZ e2 Ar_w0 (z := z) hz (g := (mkF m 14 #[.val (.ref a0), .val (.long q1), .second, .val (.long q2), .second, .val (.long xx), .second, .val (.int ii)] [(.ref w0), (.int ii)])) rfl rfl (hb hby d6_14)
    refine own_go st3 ?_
    by_cases hc15_4 : ii < z
    · refine own_go (T' := T2) (f' := (mkF m 21 #[.val (.ref a0), .val (.long q1), .second, .val (.long q2), .second, .val (.long xx), .second, .val (.int ii)] [(.ref a0), (.long xx)])) (fun t kt => ?_) ?_
      · show Steps p.tables e below (T2.setTop (mkF m 15 #[.val (.ref a0), .val (.long q1), .second, .val (.long q2), .second, .val (.long xx), .second, .val (.int ii)] [(.int z), (.int ii)])) t
        refine XS.icmpNo X2.here hx rfl (hb hby d6_15) rfl (tlt hc15_4).2.1 ?_
        show Steps p.tables e below (T2.setTop (mkF m 18 #[.val (.ref a0), .val (.long q1), .second, .val (.long q2), .second, .val (.long xx), .second, .val (.int ii)] [])) t
        refine XS.lload X2.here hx rfl (hb hby d6_18) rfl ?_
        show Steps p.tables e below (T2.setTop (mkF m 20 #[.val (.ref a0), .val (.long q1), .second, .val (.long q2), .second, .val (.long xx), .second, .val (.int ii)] [(.long xx)])) t
        refine XS.aloadN X2.here hx rfl (hb hby d6_20) rfl rfl ?_
        show Steps p.tables e below (T2.setTop (mkF m 21 #[.val (.ref a0), .val (.long q1), .second, .val (.long q2), .second, .val (.long xx), .second, .val (.int ii)] [(.ref a0), (.long xx)])) t
        exact kt
      obtain ⟨T5, X5, e5, st5⟩ := getF X2 hx hZ hown (host := "") (Or.inl (hw _ (List.mem_of_getElem? (i := 13) rfl))) Via.refl e2 F_a0_masks (g := (mkF m 21 #[.val (.ref a0), .val (.long q1), .second, .val (.long q2), .second, .val (.long xx), .second, .val (.int ii)] [(.ref a0), (.long xx)])) rfl rfl (hb hby d6_21)
      refine own_go st5 ?_
      refine own_go (T' := T5) (f' := (mkF m 30 #[.val (.ref a0), .val (.long q1), .second, .val (.long q2), .second, .val (.long xx), .second, .val (.int ii)] [(.int (lcmpW (xx &&& (f kk)) (0 : Int64)))])) (fun t kt => ?_) ?_
      · show Steps p.tables e below (T5.setTop (mkF m 24 #[.val (.ref a0), .val (.long q1), .second, .val (.long q2), .second, .val (.long xx), .second, .val (.int ii)] [(.ref w0), (.long xx)])) t
        refine XS.iload X5.here hx rfl (hb hby d6_24) rfl ?_
        show Steps p.tables e below (T5.setTop (mkF m 26 #[.val (.ref a0), .val (.long q1), .second, .val (.long q2), .second, .val (.long xx), .second, .val (.int ii)] [(.int ii), (.ref w0), (.long xx)])) t
        refine own_laload X5 hx hZ e5 Ar_w0 (i := kk) hii ((own_ltn hii hz).mp hc15_4) (g := (mkF m 26 #[.val (.ref a0), .val (.long q1), .second, .val (.long q2), .second, .val (.long xx), .second, .val (.int ii)] [(.int ii), (.ref w0), (.long xx)])) rfl rfl (hb hby d6_26) _ ?_
        show Steps p.tables e below (T5.setTop (mkF m 27 #[.val (.ref a0), .val (.long q1), .second, .val (.long q2), .second, .val (.long xx), .second, .val (.int ii)] [(.long (f kk)), (.long xx)])) t
        refine XS.land X5.here hx rfl (hb hby d6_27) rfl ?_
        show Steps p.tables e below (T5.setTop (mkF m 28 #[.val (.ref a0), .val (.long q1), .second, .val (.long q2), .second, .val (.long xx), .second, .val (.int ii)] [(.long (xx &&& (f kk)))])) t
        refine XS.lconst X5.here hx rfl (hb hby d6_28) ?_
        show Steps p.tables e below (T5.setTop (mkF m 29 #[.val (.ref a0), .val (.long q1), .second, .val (.long q2), .second, .val (.long xx), .second, .val (.int ii)] [(.long (0 : Int64)), (.long (xx &&& (f kk)))])) t
        refine XS.lcmp X5.here hx rfl (hb hby d6_29) rfl ?_
        show Steps p.tables e below (T5.setTop (mkF m 30 #[.val (.ref a0), .val (.long q1), .second, .val (.long q2), .second, .val (.long xx), .second, .val (.int ii)] [(.int (lcmpW (xx &&& (f kk)) (0 : Int64)))])) t
        exact kt
      by_cases hc30_6 : (xx &&& (f kk)) = (0 : Int64)
      · refine own_go (T' := T5) (f' := (mkF m 41 #[.val (.ref a0), .val (.long q1), .second, .val (.long q2), .second, .val (.long xx), .second, .val (.int ii)] [(.int ii)])) (fun t kt => ?_) ?_
        · show Steps p.tables e below (T5.setTop (mkF m 30 #[.val (.ref a0), .val (.long q1), .second, .val (.long q2), .second, .val (.long xx), .second, .val (.int ii)] [(.int (lcmpW (xx &&& (f kk)) (0 : Int64)))])) t
          refine XS.ifYes X5.here hx rfl (pc0 := 30) (pc' := 39) rfl (hb hby d6_30) rfl (own_lY_eq hc30_6) (by decide) (by decide) ?_
          show Steps p.tables e below (T5.setTop (mkF m 39 #[.val (.ref a0), .val (.long q1), .second, .val (.long q2), .second, .val (.long xx), .second, .val (.int ii)] [])) t
          refine XS.iload X5.here hx rfl (hb hby d6_39) rfl ?_
          show Steps p.tables e below (T5.setTop (mkF m 41 #[.val (.ref a0), .val (.long q1), .second, .val (.long q2), .second, .val (.long xx), .second, .val (.int ii)] [(.int ii)])) t
          exact kt
        exact own_retI X5 hP hx hlk e5 hret (hb hby d6_41) (by decide) (by decide) ⟨(congrArg (fun w => some (Value.int w)) (own_ofE (k := own_scan f (q1 ^^^ q2) n 0) (by rw [hii, show own_scan f (q1 ^^^ q2) n 0 = kk from (by rw [← hxx, ← hsc, show n - kk = (n - (kk + 1)) + 1 from by (have := ((own_ltn hii hz).mp hc15_4); omega), own_scan, if_pos hc30_6])]))), rfl, rfl⟩
      · refine own_go (T' := T5) (f' := (mkF m 8 #[.val (.ref a0), .val (.long q1), .second, .val (.long q2), .second, .val (.long xx), .second, .val (.int (ii + (1 : Int32)))] [])) (fun t kt => ?_) ?_
        · show Steps p.tables e below (T5.setTop (mkF m 30 #[.val (.ref a0), .val (.long q1), .second, .val (.long q2), .second, .val (.long xx), .second, .val (.int ii)] [(.int (lcmpW (xx &&& (f kk)) (0 : Int64)))])) t
          refine XS.ifNo X5.here hx rfl (hb hby d6_30) rfl (own_lN_eq hc30_6) ?_
          show Steps p.tables e below (T5.setTop (mkF m 33 #[.val (.ref a0), .val (.long q1), .second, .val (.long q2), .second, .val (.long xx), .second, .val (.int ii)] [])) t
          refine XS.iinc X5.here hx rfl (hb hby d6_33) rfl (l' := #[.val (.ref a0), .val (.long q1), .second, .val (.long q2), .second, .val (.long xx), .second, .val (.int (ii + (1 : Int32)))]) rfl ?_
          show Steps p.tables e below (T5.setTop (mkF m 36 #[.val (.ref a0), .val (.long q1), .second, .val (.long q2), .second, .val (.long xx), .second, .val (.int (ii + (1 : Int32)))] [])) t
          refine XS.goto X5.here hx rfl (pc0 := 36) (pc' := 8) rfl (hb hby d6_36) (by decide) (by decide) ?_
          show Steps p.tables e below (T5.setTop (mkF m 8 #[.val (.ref a0), .val (.long q1), .second, .val (.long q2), .second, .val (.long xx), .second, .val (.int (ii + (1 : Int32)))] [])) t
          exact kt
        exact IHJ8 (n - (kk + 1)) (by have q := ((own_ltn hii hz).mp hc15_4); omega) T5 _ (ii + (1 : Int32)) (kk + 1) X5 rfl e5 (own_inc hii (by omega)) ((own_ltn hii hz).mp hc15_4) (by rw [← hsc, show n - kk = (n - (kk + 1)) + 1 from by (have := ((own_ltn hii hz).mp hc15_4); omega), own_scan, if_neg hc30_6]) rfl
    · refine own_go (T' := T2) (f' := (mkF m 41 #[.val (.ref a0), .val (.long q1), .second, .val (.long q2), .second, .val (.long xx), .second, .val (.int ii)] [(.int ii)])) (fun t kt => ?_) ?_
      · show Steps p.tables e below (T2.setTop (mkF m 15 #[.val (.ref a0), .val (.long q1), .second, .val (.long q2), .second, .val (.long xx), .second, .val (.int ii)] [(.int z), (.int ii)])) t
        refine XS.icmpYes X2.here hx rfl (pc0 := 15) (pc' := 39) rfl (hb hby d6_15) rfl (flt hc15_4).2.1 (by decide) (by decide) ?_
        show Steps p.tables e below (T2.setTop (mkF m 39 #[.val (.ref a0), .val (.long q1), .second, .val (.long q2), .second, .val (.long xx), .second, .val (.int ii)] [])) t
        refine XS.iload X2.here hx rfl (hb hby d6_39) rfl ?_
        show Steps p.tables e below (T2.setTop (mkF m 41 #[.val (.ref a0), .val (.long q1), .second, .val (.long q2), .second, .val (.long xx), .second, .val (.int ii)] [(.int ii)])) t
        exact kt
      exact own_retI X2 hP hx hlk e2 hret (hb hby d6_41) (by decide) (by decide) ⟨(congrArg (fun w => some (Value.int w)) (own_ofE (k := own_scan f (q1 ^^^ q2) n 0) (by rw [hii, show own_scan f (q1 ^^^ q2) n 0 = kk from (by rw [← hxx, ← hsc, show n - kk = 0 from by (have := mt (own_ltn hii hz).mpr hc15_4; omega), own_scan])]))), rfl, rfl⟩
  exact J8 n s₁ _ (0 : Int32) 0 X0 rfl e0 rfl (Nat.zero_le _) rfl rfl
theorem d1_0 : decode prog_24_method_1_code 0 = .ok (.aload_n 0, 1) := by decide +kernel
theorem d1_1 : decode prog_24_method_1_code 1 = .ok (.invokespecial 1, 3) := by decide +kernel
theorem d1_4 : decode prog_24_method_1_code 4 = .ok (.iload_n 1, 1) := by decide +kernel
theorem d1_5 : decode prog_24_method_1_code 5 = .ok (.ifCond .lt 9, 3) := by decide +kernel
theorem d1_8 : decode prog_24_method_1_code 8 = .ok (.iload_n 1, 1) := by decide +kernel
theorem d1_9 : decode prog_24_method_1_code 9 = .ok (.bipush 63, 2) := by decide +kernel
theorem d1_11 : decode prog_24_method_1_code 11 = .ok (.if_icmp .le 17, 3) := by decide +kernel
theorem d1_28 : decode prog_24_method_1_code 28 = .ok (.aload_n 0, 1) := by decide +kernel
theorem d1_29 : decode prog_24_method_1_code 29 = .ok (.iload_n 1, 1) := by decide +kernel
theorem d1_30 : decode prog_24_method_1_code 30 = .ok (.putfield 18, 3) := by decide +kernel
theorem d1_33 : decode prog_24_method_1_code 33 = .ok (.iload_n 1, 1) := by decide +kernel
theorem d1_34 : decode prog_24_method_1_code 34 = .ok (.iconst 1, 1) := by decide +kernel
theorem d1_35 : decode prog_24_method_1_code 35 = .ok (.iadd, 1) := by decide +kernel
theorem d1_36 : decode prog_24_method_1_code 36 = .ok (.istore_n 2, 1) := by decide +kernel
theorem d1_37 : decode prog_24_method_1_code 37 = .ok (.aload_n 0, 1) := by decide +kernel
theorem d1_38 : decode prog_24_method_1_code 38 = .ok (.iload_n 2, 1) := by decide +kernel
theorem d1_39 : decode prog_24_method_1_code 39 = .ok (.newarray .long, 2) := by decide +kernel
theorem d1_41 : decode prog_24_method_1_code 41 = .ok (.putfield 22, 3) := by decide +kernel
theorem d1_44 : decode prog_24_method_1_code 44 = .ok (.aload_n 0, 1) := by decide +kernel
theorem d1_45 : decode prog_24_method_1_code 45 = .ok (.iload_n 2, 1) := by decide +kernel
theorem d1_46 : decode prog_24_method_1_code 46 = .ok (.newarray .int, 2) := by decide +kernel
theorem d1_48 : decode prog_24_method_1_code 48 = .ok (.putfield 26, 3) := by decide +kernel
theorem d1_51 : decode prog_24_method_1_code 51 = .ok (.aload_n 0, 1) := by decide +kernel
theorem d1_52 : decode prog_24_method_1_code 52 = .ok (.iload_n 2, 1) := by decide +kernel
theorem d1_53 : decode prog_24_method_1_code 53 = .ok (.newarray .int, 2) := by decide +kernel
theorem d1_55 : decode prog_24_method_1_code 55 = .ok (.putfield 30, 3) := by decide +kernel
theorem d1_58 : decode prog_24_method_1_code 58 = .ok (.iconst 0, 1) := by decide +kernel
theorem d1_59 : decode prog_24_method_1_code 59 = .ok (.istore_n 3, 1) := by decide +kernel
theorem d1_60 : decode prog_24_method_1_code 60 = .ok (.iconst 0, 1) := by decide +kernel
theorem d1_61 : decode prog_24_method_1_code 61 = .ok (.istore 4, 2) := by decide +kernel
theorem d1_63 : decode prog_24_method_1_code 63 = .ok (.iload 4, 2) := by decide +kernel
theorem d1_65 : decode prog_24_method_1_code 65 = .ok (.iload_n 2, 1) := by decide +kernel
theorem d1_66 : decode prog_24_method_1_code 66 = .ok (.if_icmp .ge 76, 3) := by decide +kernel
theorem d1_69 : decode prog_24_method_1_code 69 = .ok (.aload_n 0, 1) := by decide +kernel
theorem d1_70 : decode prog_24_method_1_code 70 = .ok (.getfield 30, 3) := by decide +kernel
theorem d1_73 : decode prog_24_method_1_code 73 = .ok (.iload 4, 2) := by decide +kernel
theorem d1_75 : decode prog_24_method_1_code 75 = .ok (.bipush 64, 2) := by decide +kernel
theorem d1_77 : decode prog_24_method_1_code 77 = .ok (.iload_n 2, 1) := by decide +kernel
theorem d1_78 : decode prog_24_method_1_code 78 = .ok (.idiv, 1) := by decide +kernel
theorem d1_79 : decode prog_24_method_1_code 79 = .ok (.iload 4, 2) := by decide +kernel
theorem d1_81 : decode prog_24_method_1_code 81 = .ok (.bipush 64, 2) := by decide +kernel
theorem d1_83 : decode prog_24_method_1_code 83 = .ok (.iload_n 2, 1) := by decide +kernel
theorem d1_84 : decode prog_24_method_1_code 84 = .ok (.irem, 1) := by decide +kernel
theorem d1_85 : decode prog_24_method_1_code 85 = .ok (.if_icmp .ge 7, 3) := by decide +kernel
theorem d1_88 : decode prog_24_method_1_code 88 = .ok (.iconst 1, 1) := by decide +kernel
theorem d1_89 : decode prog_24_method_1_code 89 = .ok (.goto 4, 3) := by decide +kernel
theorem d1_92 : decode prog_24_method_1_code 92 = .ok (.iconst 0, 1) := by decide +kernel
theorem d1_93 : decode prog_24_method_1_code 93 = .ok (.iadd, 1) := by decide +kernel
theorem d1_94 : decode prog_24_method_1_code 94 = .ok (.iastore, 1) := by decide +kernel
theorem d1_95 : decode prog_24_method_1_code 95 = .ok (.aload_n 0, 1) := by decide +kernel
theorem d1_96 : decode prog_24_method_1_code 96 = .ok (.getfield 22, 3) := by decide +kernel
theorem d1_99 : decode prog_24_method_1_code 99 = .ok (.iload 4, 2) := by decide +kernel
theorem d1_101 : decode prog_24_method_1_code 101 = .ok (.ldc2_w 35, 3) := by decide +kernel
theorem d1_104 : decode prog_24_method_1_code 104 = .ok (.bipush 64, 2) := by decide +kernel
theorem d1_106 : decode prog_24_method_1_code 106 = .ok (.aload_n 0, 1) := by decide +kernel
theorem d1_107 : decode prog_24_method_1_code 107 = .ok (.getfield 30, 3) := by decide +kernel
theorem d1_110 : decode prog_24_method_1_code 110 = .ok (.iload 4, 2) := by decide +kernel
theorem d1_112 : decode prog_24_method_1_code 112 = .ok (.iaload, 1) := by decide +kernel
theorem d1_113 : decode prog_24_method_1_code 113 = .ok (.isub, 1) := by decide +kernel
theorem d1_114 : decode prog_24_method_1_code 114 = .ok (.lushr, 1) := by decide +kernel
theorem d1_115 : decode prog_24_method_1_code 115 = .ok (.iload_n 3, 1) := by decide +kernel
theorem d1_116 : decode prog_24_method_1_code 116 = .ok (.lshl, 1) := by decide +kernel
theorem d1_117 : decode prog_24_method_1_code 117 = .ok (.lastore, 1) := by decide +kernel
theorem d1_118 : decode prog_24_method_1_code 118 = .ok (.aload_n 0, 1) := by decide +kernel
theorem d1_119 : decode prog_24_method_1_code 119 = .ok (.getfield 26, 3) := by decide +kernel
theorem d1_122 : decode prog_24_method_1_code 122 = .ok (.iload 4, 2) := by decide +kernel
theorem d1_124 : decode prog_24_method_1_code 124 = .ok (.iload_n 3, 1) := by decide +kernel
theorem d1_125 : decode prog_24_method_1_code 125 = .ok (.iastore, 1) := by decide +kernel
theorem d1_126 : decode prog_24_method_1_code 126 = .ok (.iload_n 3, 1) := by decide +kernel
theorem d1_127 : decode prog_24_method_1_code 127 = .ok (.aload_n 0, 1) := by decide +kernel
theorem d1_128 : decode prog_24_method_1_code 128 = .ok (.getfield 30, 3) := by decide +kernel
theorem d1_131 : decode prog_24_method_1_code 131 = .ok (.iload 4, 2) := by decide +kernel
theorem d1_133 : decode prog_24_method_1_code 133 = .ok (.iaload, 1) := by decide +kernel
theorem d1_134 : decode prog_24_method_1_code 134 = .ok (.iadd, 1) := by decide +kernel
theorem d1_135 : decode prog_24_method_1_code 135 = .ok (.istore_n 3, 1) := by decide +kernel
theorem d1_136 : decode prog_24_method_1_code 136 = .ok (.iinc 4 1, 3) := by decide +kernel
theorem d1_139 : decode prog_24_method_1_code 139 = .ok (.goto (-76), 3) := by decide +kernel
theorem d1_142 : decode prog_24_method_1_code 142 = .ok (.return_, 1) := by decide +kernel
set_option maxRecDepth 65536 in
set_option maxHeartbeats 4000000 in
theorem ef_1 (m : MethodId) (a0 : Addr) (p1 : Int32) : entryFrame m #[(.ref a0), (.int p1)] 5 = mkF m 0 #[.val (.ref a0), .val (.int p1), .unset, .unset, .unset] [] := by first | (simp [entryFrame, mkF, argsToLocals, Value.category]; done) | rfl
set_option maxRecDepth 65536 in
set_option maxHeartbeats 40000000 in
theorem rm1 (l : Launch) (Z : State) (aw : Array Value) (hw : ∀ d ∈ tables_1, d.before aw Z = true) {ws : List Jvm.Cond} (a0 : Addr) (p1 : Int32) (n : Nat) (h0 : Heap) (n0 : Nat) (Z0 : n0 ≤ h0.size) (E_a0 : Exa Z h0 a0 "com/example/resemblr/resemblr/SimHashBlocks") (K_a0 : own_K h0 a0) (g_a0 : n0 ≤ a0) (hz : (p1 + (1 : Int32)).toInt = (n : Int)) (h0n : 0 < n) (hn : n ≤ 64) (hp0 : ¬ p1 < (0 : Int32)) (hp1 : ¬ (63 : Int32) < p1) :
    own_Met l Z (⟨"com/example/resemblr/resemblr/SimHashBlocks", "<init>", "(I)V"⟩ : MethodName) prog_24_method_1_code 5 none ws ({ frames := 1, cells := 3, slots := 192, locals := 12 } : Room) #[(.ref a0), (.int p1)] h0 (fun v h L => v = none ∧ Fr n0 L ∧ Keep h0 h [a0] ∧ Exa Z h a0 "com/example/resemblr/resemblr/SimHashBlocks" ∧ ∃ r fm, n0 ≤ r ∧ h0.size ≤ r ∧ Fld Z h a0 "com/example/resemblr/resemblr/SimHashBlocks" "masks" "[J" (.ref r) ∧ own_AJ Z h r n fm ∧ ∀ i, i < n → own_isM (fm i) (own_st n i) (own_wd n i)) := by
  refine own_body (plainFor_of_name pn_1) ?_
  intro p e s m below meth c s₁ hx hZ hby hml hown hnm hret hlk X0 e0
  replace hown : s.vm.findClass "com/example/resemblr/resemblr/SimHashBlocks" = some m.cls := hown
  replace hml : c.maxLocals = 5 := hml
  have N0 := Fr.nil n0
  have K0 := Keep.refl h0 [a0]
  obtain ⟨P, hP⟩ : ∃ P, P = own_P below s (fun v h L => v = none ∧ Fr n0 L ∧ Keep h0 h [a0] ∧ Exa Z h a0 "com/example/resemblr/resemblr/SimHashBlocks" ∧ ∃ r fm, n0 ≤ r ∧ h0.size ≤ r ∧ Fld Z h a0 "com/example/resemblr/resemblr/SimHashBlocks" "masks" "[J" (.ref r) ∧ own_AJ Z h r n fm ∧ ∀ i, i < n → own_isM (fm i) (own_st n i) (own_wd n i)) ({ frames := 1, cells := 3, slots := 192, locals := 12 } : Room).cells ({ frames := 1, cells := 3, slots := 192, locals := 12 } : Room).slots := ⟨_, rfl⟩
  rw [← hP]
  refine own_cast (ef_1 m a0 p1) ?_
  refine own_go (T' := s₁) (f' := (mkF m 1 #[.val (.ref a0), .val (.int p1), .unset, .unset, .unset] [(.ref a0)])) (fun t kt => ?_) ?_
  · show Steps p.tables e below (s₁.setTop (mkF m 0 #[.val (.ref a0), .val (.int p1), .unset, .unset, .unset] [])) t
    refine XS.aloadN X0.here hx rfl (hb hby d1_0) rfl rfl ?_
    show Steps p.tables e below (s₁.setTop (mkF m 1 #[.val (.ref a0), .val (.int p1), .unset, .unset, .unset] [(.ref a0)])) t
    exact kt
  obtain ⟨T1, X1, e1, st1⟩ := initO X0 hx hZ hown (hw _ (List.mem_of_getElem? (i := 7) rfl)) (hw _ (List.mem_of_getElem? (i := 8) rfl)) (hw _ (List.mem_of_getElem? (i := 9) rfl)) e0 (g := (mkF m 1 #[.val (.ref a0), .val (.int p1), .unset, .unset, .unset] [(.ref a0)])) rfl (by rw [hml]; rfl) rfl (hb hby d1_1) (by decide) (W := 0) (by show 2 * 0 + _ ≤ _; exact Nat.le_of_eq rfl) (by decide)
  refine own_go st1 ?_
  refine own_go (T' := T1) (f' := (mkF m 30 #[.val (.ref a0), .val (.int p1), .unset, .unset, .unset] [(.int p1), (.ref a0)])) (fun t kt => ?_) ?_
  · show Steps p.tables e below (T1.setTop (mkF m 4 #[.val (.ref a0), .val (.int p1), .unset, .unset, .unset] [])) t
    refine XS.iloadN X1.here hx rfl (hb hby d1_4) rfl ?_
    show Steps p.tables e below (T1.setTop (mkF m 5 #[.val (.ref a0), .val (.int p1), .unset, .unset, .unset] [(.int p1)])) t
    refine XS.ifNo X1.here hx rfl (hb hby d1_5) rfl ((if0 _ _).trans (flt (show ¬ (p1 < (0 : Int32)) from hp0)).1) ?_
    show Steps p.tables e below (T1.setTop (mkF m 8 #[.val (.ref a0), .val (.int p1), .unset, .unset, .unset] [])) t
    refine XS.iloadN X1.here hx rfl (hb hby d1_8) rfl ?_
    show Steps p.tables e below (T1.setTop (mkF m 9 #[.val (.ref a0), .val (.int p1), .unset, .unset, .unset] [(.int p1)])) t
    refine XS.bipush X1.here hx rfl (hb hby d1_9) ?_
    show Steps p.tables e below (T1.setTop (mkF m 11 #[.val (.ref a0), .val (.int p1), .unset, .unset, .unset] [(.int (63 : Int32)), (.int p1)])) t
    refine XS.icmpYes X1.here hx rfl (pc0 := 11) (pc' := 28) rfl (hb hby d1_11) rfl (flt (show ¬ ((63 : Int32) < p1) from hp1)).2.2.2 (by decide) (by decide) ?_
    show Steps p.tables e below (T1.setTop (mkF m 28 #[.val (.ref a0), .val (.int p1), .unset, .unset, .unset] [])) t
    refine XS.aloadN X1.here hx rfl (hb hby d1_28) rfl rfl ?_
    show Steps p.tables e below (T1.setTop (mkF m 29 #[.val (.ref a0), .val (.int p1), .unset, .unset, .unset] [(.ref a0)])) t
    refine XS.iloadN X1.here hx rfl (hb hby d1_29) rfl ?_
    show Steps p.tables e below (T1.setTop (mkF m 30 #[.val (.ref a0), .val (.int p1), .unset, .unset, .unset] [(.int p1), (.ref a0)])) t
    exact kt
  obtain ⟨uv2, F2_maxDistance⟩ := fld_laid E_a0 K_a0 (hw _ (List.mem_of_getElem? (i := 2) rfl)) (Or.inr (hw _ (List.mem_of_getElem? (i := 11) rfl)))
  obtain ⟨T2, h2, X2, e2, W2, st2⟩ := putF X1 hx hZ hown (host := "") (Or.inl (hw _ (List.mem_of_getElem? (i := 10) rfl))) Via.refl e1 F2_maxDistance E_a0 (Or.inr ⟨(hw _ (List.mem_of_getElem? (i := 11) rfl)), rfl, hnm⟩) (hw _ (List.mem_of_getElem? (i := 2) rfl)) (ty := .int) (by decide) rfl rfl (g := (mkF m 30 #[.val (.ref a0), .val (.int p1), .unset, .unset, .unset] [(.int p1), (.ref a0)])) rfl rfl (hb hby d1_30)
  refine own_go st2 ?_
  replace E_a0 := (E_a0.wr W2)
  replace F2_maxDistance := (F2_maxDistance.same W2)
  replace K_a0 := own_K_wr K_a0 W2
  have N2 := Fr.snoc X2 N0 g_a0
  have Z2 : n0 ≤ h2.size := Nat.le_trans Z0 (Keep.of_wr W2).1
  have KK2 := K0.wr W2 (Or.inl (by simp))
  refine own_go (T' := T2) (f' := (mkF m 36 #[.val (.ref a0), .val (.int p1), .unset, .unset, .unset] [(.int (p1 + (1 : Int32)))])) (fun t kt => ?_) ?_
  · show Steps p.tables e below (T2.setTop (mkF m 33 #[.val (.ref a0), .val (.int p1), .unset, .unset, .unset] [])) t
    refine XS.iloadN X2.here hx rfl (hb hby d1_33) rfl ?_
    show Steps p.tables e below (T2.setTop (mkF m 34 #[.val (.ref a0), .val (.int p1), .unset, .unset, .unset] [(.int p1)])) t
    refine XS.iconst X2.here hx rfl (hb hby d1_34) ?_
    show Steps p.tables e below (T2.setTop (mkF m 35 #[.val (.ref a0), .val (.int p1), .unset, .unset, .unset] [(.int (1 : Int32)), (.int p1)])) t
    refine XS.iadd X2.here hx rfl (hb hby d1_35) rfl ?_
    show Steps p.tables e below (T2.setTop (mkF m 36 #[.val (.ref a0), .val (.int p1), .unset, .unset, .unset] [(.int (p1 + (1 : Int32)))])) t
    exact kt
  obtain ⟨nn, hnn⟩ : ∃ z, z = (p1 + (1 : Int32)) := ⟨_, rfl⟩
  rw [← hnn]
  refine own_go (T' := T2) (f' := (mkF m 39 #[.val (.ref a0), .val (.int p1), .val (.int nn), .unset, .unset] [(.int nn), (.ref a0)])) (fun t kt => ?_) ?_
  · show Steps p.tables e below (T2.setTop (mkF m 36 #[.val (.ref a0), .val (.int p1), .unset, .unset, .unset] [(.int nn)])) t
    refine XS.istoreN X2.here hx rfl (hb hby d1_36) rfl (l' := #[.val (.ref a0), .val (.int p1), .val (.int nn), .unset, .unset]) rfl ?_
    show Steps p.tables e below (T2.setTop (mkF m 37 #[.val (.ref a0), .val (.int p1), .val (.int nn), .unset, .unset] [])) t
    refine XS.aloadN X2.here hx rfl (hb hby d1_37) rfl rfl ?_
    show Steps p.tables e below (T2.setTop (mkF m 38 #[.val (.ref a0), .val (.int p1), .val (.int nn), .unset, .unset] [(.ref a0)])) t
    refine XS.iloadN X2.here hx rfl (hb hby d1_38) rfl ?_
    show Steps p.tables e below (T2.setTop (mkF m 39 #[.val (.ref a0), .val (.int p1), .val (.int nn), .unset, .unset] [(.int nn), (.ref a0)])) t
    exact kt
  obtain ⟨T3, h3, k3, X3, e3, E3, A3, st3⟩ := newP X2 hx hZ (hw _ (List.mem_of_getElem? (i := 12) rfl)) e2 (g := (mkF m 39 #[.val (.ref a0), .val (.int p1), .val (.int nn), .unset, .unset] [(.int nn), (.ref a0)])) rfl (hb hby d1_39) rfl (own_neg (by rw [hnn, hz]; omega)) (cap := 64) (by rw [own_nat (hnn ▸ hz : nn.toInt = (n : Int))]; exact hn) (by decide) (by decide) (by decide)
  obtain ⟨b3, y3⟩ : ∃ z, z = h2.size := ⟨_, rfl⟩
  rw [← y3] at A3 st3
  have ne_a0_b3 : a0 ≠ b3 := Nat.ne_of_lt (Nat.lt_of_lt_of_le E_a0.lt (Nat.le_of_eq y3.symm))
  have ne_b3_a0 := ne_a0_b3.symm
  have g_b3 : n0 ≤ b3 := Nat.le_trans Z2 (Nat.le_of_eq y3.symm)
  have sz_b3 : h0.size ≤ b3 := Nat.le_trans KK2.1 (Nat.le_of_eq y3.symm)
  replace E_a0 := (E_a0.ext E3)
  replace F2_maxDistance := (F2_maxDistance.ext E3)
  replace K_a0 := own_K_ext K_a0 E3
  have ZE3 : n0 ≤ h3.size := Nat.le_trans Z2 E3.1
  have KKE3 := KK2.ext E3
  refine own_go st3 ?_
  have Ar_b3 : own_AJ Z h3 b3 n (fun _ => (0 : Int64)) := own_A_new A3 (hnn ▸ hz)
  obtain ⟨uv4, F4_masks⟩ := fld_laid E_a0 K_a0 (hw _ (List.mem_of_getElem? (i := 2) rfl)) (Or.inr (hw _ (List.mem_of_getElem? (i := 14) rfl)))
  obtain ⟨T4, h4, X4, e4, W4, st4⟩ := putF X3 hx hZ hown (host := "") (Or.inl (hw _ (List.mem_of_getElem? (i := 13) rfl))) Via.refl e3 F4_masks E_a0 (Or.inr ⟨(hw _ (List.mem_of_getElem? (i := 14) rfl)), rfl, hnm⟩) (hw _ (List.mem_of_getElem? (i := 2) rfl)) (ty := (.array .long)) (by decide) rfl rfl (g := (mkF m 41 #[.val (.ref a0), .val (.int p1), .val (.int nn), .unset, .unset] [(.ref b3), (.ref a0)])) rfl rfl (hb hby d1_41)
  refine own_go st4 ?_
  replace E_a0 := (E_a0.wr W4)
  replace F2_maxDistance := (F2_maxDistance.other W4 (Or.inr (slot_ne (Or.inr (hw _ (List.mem_of_getElem? (i := 11) rfl))) (Or.inr (hw _ (List.mem_of_getElem? (i := 14) rfl))) (by decide) (t := .int) (t' := (.array .long)) (by decide) (by decide))))
  replace Ar_b3 := (Ar_b3.other W4 (ne_b3_a0))
  replace F4_masks := (F4_masks.same W4)
  replace K_a0 := own_K_wr K_a0 W4
  have N4 := Fr.snoc X4 N2 g_a0
  have Z4 : n0 ≤ h4.size := Nat.le_trans ZE3 (Keep.of_wr W4).1
  have KK4 := KKE3.wr W4 (Or.inl (by simp))
  refine own_go (T' := T4) (f' := (mkF m 46 #[.val (.ref a0), .val (.int p1), .val (.int nn), .unset, .unset] [(.int nn), (.ref a0)])) (fun t kt => ?_) ?_
  · show Steps p.tables e below (T4.setTop (mkF m 44 #[.val (.ref a0), .val (.int p1), .val (.int nn), .unset, .unset] [])) t
    refine XS.aloadN X4.here hx rfl (hb hby d1_44) rfl rfl ?_
    show Steps p.tables e below (T4.setTop (mkF m 45 #[.val (.ref a0), .val (.int p1), .val (.int nn), .unset, .unset] [(.ref a0)])) t
    refine XS.iloadN X4.here hx rfl (hb hby d1_45) rfl ?_
    show Steps p.tables e below (T4.setTop (mkF m 46 #[.val (.ref a0), .val (.int p1), .val (.int nn), .unset, .unset] [(.int nn), (.ref a0)])) t
    exact kt
  obtain ⟨T5, h5, k5, X5, e5, E5, A5, st5⟩ := newP X4 hx hZ (hw _ (List.mem_of_getElem? (i := 15) rfl)) e4 (g := (mkF m 46 #[.val (.ref a0), .val (.int p1), .val (.int nn), .unset, .unset] [(.int nn), (.ref a0)])) rfl (hb hby d1_46) rfl (own_neg (by rw [hnn, hz]; omega)) (cap := 64) (by rw [own_nat (hnn ▸ hz : nn.toInt = (n : Int))]; exact hn) (by decide) (by decide) (by decide)
  obtain ⟨b5, y5⟩ : ∃ z, z = h4.size := ⟨_, rfl⟩
  rw [← y5] at A5 st5
  have ne_a0_b5 : a0 ≠ b5 := Nat.ne_of_lt (Nat.lt_of_lt_of_le E_a0.lt (Nat.le_of_eq y5.symm))
  have ne_b5_a0 := ne_a0_b5.symm
  have ne_b3_b5 : b3 ≠ b5 := Nat.ne_of_lt (Nat.lt_of_lt_of_le Ar_b3.lt (Nat.le_of_eq y5.symm))
  have ne_b5_b3 := ne_b3_b5.symm
  have g_b5 : n0 ≤ b5 := Nat.le_trans Z4 (Nat.le_of_eq y5.symm)
  have sz_b5 : h0.size ≤ b5 := Nat.le_trans KK4.1 (Nat.le_of_eq y5.symm)
  replace E_a0 := (E_a0.ext E5)
  replace F2_maxDistance := (F2_maxDistance.ext E5)
  replace Ar_b3 := (Ar_b3.ext E5)
  replace F4_masks := (F4_masks.ext E5)
  replace K_a0 := own_K_ext K_a0 E5
  have ZE5 : n0 ≤ h5.size := Nat.le_trans Z4 E5.1
  have KKE5 := KK4.ext E5
  refine own_go st5 ?_
  have Ar_b5 : own_AI Z h5 b5 n (fun _ => (0 : Int32)) := own_A_new A5 (hnn ▸ hz)
  obtain ⟨uv6, F6_shifts⟩ := fld_laid E_a0 K_a0 (hw _ (List.mem_of_getElem? (i := 2) rfl)) (Or.inr (hw _ (List.mem_of_getElem? (i := 17) rfl)))
  obtain ⟨T6, h6, X6, e6, W6, st6⟩ := putF X5 hx hZ hown (host := "") (Or.inl (hw _ (List.mem_of_getElem? (i := 16) rfl))) Via.refl e5 F6_shifts E_a0 (Or.inr ⟨(hw _ (List.mem_of_getElem? (i := 17) rfl)), rfl, hnm⟩) (hw _ (List.mem_of_getElem? (i := 2) rfl)) (ty := (.array .int)) (by decide) rfl rfl (g := (mkF m 48 #[.val (.ref a0), .val (.int p1), .val (.int nn), .unset, .unset] [(.ref b5), (.ref a0)])) rfl rfl (hb hby d1_48)
  refine own_go st6 ?_
  replace E_a0 := (E_a0.wr W6)
  replace F2_maxDistance := (F2_maxDistance.other W6 (Or.inr (slot_ne (Or.inr (hw _ (List.mem_of_getElem? (i := 11) rfl))) (Or.inr (hw _ (List.mem_of_getElem? (i := 17) rfl))) (by decide) (t := .int) (t' := (.array .int)) (by decide) (by decide))))
  replace Ar_b3 := (Ar_b3.other W6 (ne_b3_a0))
  replace F4_masks := (F4_masks.other W6 (Or.inr (slot_ne (Or.inr (hw _ (List.mem_of_getElem? (i := 14) rfl))) (Or.inr (hw _ (List.mem_of_getElem? (i := 17) rfl))) (by decide) (t := (.array .long)) (t' := (.array .int)) (by decide) (by decide))))
  replace Ar_b5 := (Ar_b5.other W6 (ne_b5_a0))
  replace F6_shifts := (F6_shifts.same W6)
  replace K_a0 := own_K_wr K_a0 W6
  have N6 := Fr.snoc X6 N4 g_a0
  have Z6 : n0 ≤ h6.size := Nat.le_trans ZE5 (Keep.of_wr W6).1
  have KK6 := KKE5.wr W6 (Or.inl (by simp))
  refine own_go (T' := T6) (f' := (mkF m 53 #[.val (.ref a0), .val (.int p1), .val (.int nn), .unset, .unset] [(.int nn), (.ref a0)])) (fun t kt => ?_) ?_
  · show Steps p.tables e below (T6.setTop (mkF m 51 #[.val (.ref a0), .val (.int p1), .val (.int nn), .unset, .unset] [])) t
    refine XS.aloadN X6.here hx rfl (hb hby d1_51) rfl rfl ?_
    show Steps p.tables e below (T6.setTop (mkF m 52 #[.val (.ref a0), .val (.int p1), .val (.int nn), .unset, .unset] [(.ref a0)])) t
    refine XS.iloadN X6.here hx rfl (hb hby d1_52) rfl ?_
    show Steps p.tables e below (T6.setTop (mkF m 53 #[.val (.ref a0), .val (.int p1), .val (.int nn), .unset, .unset] [(.int nn), (.ref a0)])) t
    exact kt
  obtain ⟨T7, h7, k7, X7, e7, E7, A7, st7⟩ := newP X6 hx hZ (hw _ (List.mem_of_getElem? (i := 15) rfl)) e6 (g := (mkF m 53 #[.val (.ref a0), .val (.int p1), .val (.int nn), .unset, .unset] [(.int nn), (.ref a0)])) rfl (hb hby d1_53) rfl (own_neg (by rw [hnn, hz]; omega)) (cap := 64) (by rw [own_nat (hnn ▸ hz : nn.toInt = (n : Int))]; exact hn) (by decide) (by decide) (by decide)
  obtain ⟨b7, y7⟩ : ∃ z, z = h6.size := ⟨_, rfl⟩
  rw [← y7] at A7 st7
  have ne_a0_b7 : a0 ≠ b7 := Nat.ne_of_lt (Nat.lt_of_lt_of_le E_a0.lt (Nat.le_of_eq y7.symm))
  have ne_b7_a0 := ne_a0_b7.symm
  have ne_b3_b7 : b3 ≠ b7 := Nat.ne_of_lt (Nat.lt_of_lt_of_le Ar_b3.lt (Nat.le_of_eq y7.symm))
  have ne_b7_b3 := ne_b3_b7.symm
  have ne_b5_b7 : b5 ≠ b7 := Nat.ne_of_lt (Nat.lt_of_lt_of_le Ar_b5.lt (Nat.le_of_eq y7.symm))
  have ne_b7_b5 := ne_b5_b7.symm
  have g_b7 : n0 ≤ b7 := Nat.le_trans Z6 (Nat.le_of_eq y7.symm)
  have sz_b7 : h0.size ≤ b7 := Nat.le_trans KK6.1 (Nat.le_of_eq y7.symm)
  replace E_a0 := (E_a0.ext E7)
  replace F2_maxDistance := (F2_maxDistance.ext E7)
  replace Ar_b3 := (Ar_b3.ext E7)
  replace F4_masks := (F4_masks.ext E7)
  replace Ar_b5 := (Ar_b5.ext E7)
  replace F6_shifts := (F6_shifts.ext E7)
  replace K_a0 := own_K_ext K_a0 E7
  have ZE7 : n0 ≤ h7.size := Nat.le_trans Z6 E7.1
  have KKE7 := KK6.ext E7
  refine own_go st7 ?_
  have Ar_b7 : own_AI Z h7 b7 n (fun _ => (0 : Int32)) := own_A_new A7 (hnn ▸ hz)
  obtain ⟨uv8, F8_widths⟩ := fld_laid E_a0 K_a0 (hw _ (List.mem_of_getElem? (i := 2) rfl)) (Or.inr (hw _ (List.mem_of_getElem? (i := 19) rfl)))
  obtain ⟨T8, h8, X8, e8, W8, st8⟩ := putF X7 hx hZ hown (host := "") (Or.inl (hw _ (List.mem_of_getElem? (i := 18) rfl))) Via.refl e7 F8_widths E_a0 (Or.inr ⟨(hw _ (List.mem_of_getElem? (i := 19) rfl)), rfl, hnm⟩) (hw _ (List.mem_of_getElem? (i := 2) rfl)) (ty := (.array .int)) (by decide) rfl rfl (g := (mkF m 55 #[.val (.ref a0), .val (.int p1), .val (.int nn), .unset, .unset] [(.ref b7), (.ref a0)])) rfl rfl (hb hby d1_55)
  refine own_go st8 ?_
  replace E_a0 := (E_a0.wr W8)
  replace F2_maxDistance := (F2_maxDistance.other W8 (Or.inr (slot_ne (Or.inr (hw _ (List.mem_of_getElem? (i := 11) rfl))) (Or.inr (hw _ (List.mem_of_getElem? (i := 19) rfl))) (by decide) (t := .int) (t' := (.array .int)) (by decide) (by decide))))
  replace Ar_b3 := (Ar_b3.other W8 (ne_b3_a0))
  replace F4_masks := (F4_masks.other W8 (Or.inr (slot_ne (Or.inr (hw _ (List.mem_of_getElem? (i := 14) rfl))) (Or.inr (hw _ (List.mem_of_getElem? (i := 19) rfl))) (by decide) (t := (.array .long)) (t' := (.array .int)) (by decide) (by decide))))
  replace Ar_b5 := (Ar_b5.other W8 (ne_b5_a0))
  replace F6_shifts := (F6_shifts.other W8 (Or.inr (slot_ne (Or.inr (hw _ (List.mem_of_getElem? (i := 17) rfl))) (Or.inr (hw _ (List.mem_of_getElem? (i := 19) rfl))) (by decide) (t := (.array .int)) (t' := (.array .int)) (by decide) (by decide))))
  replace Ar_b7 := (Ar_b7.other W8 (ne_b7_a0))
  replace F8_widths := (F8_widths.same W8)
  replace K_a0 := own_K_wr K_a0 W8
  have N8 := Fr.snoc X8 N6 g_a0
  have Z8 : n0 ≤ h8.size := Nat.le_trans ZE7 (Keep.of_wr W8).1
  have KK8 := KKE7.wr W8 (Or.inl (by simp))
  have hnz : nn.toInt = (n : Int) := hnn ▸ hz
  refine own_go (T' := T8) (f' := (mkF m 63 #[.val (.ref a0), .val (.int p1), .val (.int nn), .val (.int (0 : Int32)), .val (.int (0 : Int32))] [])) (fun t kt => ?_) ?_
  · show Steps p.tables e below (T8.setTop (mkF m 58 #[.val (.ref a0), .val (.int p1), .val (.int nn), .unset, .unset] [])) t
    refine XS.iconst X8.here hx rfl (hb hby d1_58) ?_
    show Steps p.tables e below (T8.setTop (mkF m 59 #[.val (.ref a0), .val (.int p1), .val (.int nn), .unset, .unset] [(.int (0 : Int32))])) t
    refine XS.istoreN X8.here hx rfl (hb hby d1_59) rfl (l' := #[.val (.ref a0), .val (.int p1), .val (.int nn), .val (.int (0 : Int32)), .unset]) rfl ?_
    show Steps p.tables e below (T8.setTop (mkF m 60 #[.val (.ref a0), .val (.int p1), .val (.int nn), .val (.int (0 : Int32)), .unset] [])) t
    refine XS.iconst X8.here hx rfl (hb hby d1_60) ?_
    show Steps p.tables e below (T8.setTop (mkF m 61 #[.val (.ref a0), .val (.int p1), .val (.int nn), .val (.int (0 : Int32)), .unset] [(.int (0 : Int32))])) t
    refine XS.istore X8.here hx rfl (hb hby d1_61) rfl (l' := #[.val (.ref a0), .val (.int p1), .val (.int nn), .val (.int (0 : Int32)), .val (.int (0 : Int32))]) rfl ?_
    show Steps p.tables e below (T8.setTop (mkF m 63 #[.val (.ref a0), .val (.int p1), .val (.int nn), .val (.int (0 : Int32)), .val (.int (0 : Int32))] [])) t
    exact kt
  have J63 : ∀ (mk : Nat) (Tj9 : State) (lj9 : List Loc) (hj9 : Heap) (fm : Nat → Int64) (fsh : Nat → Int32) (fw : Nat → Int32) (sh : Int32) (ii : Int32) (kk : Nat) (Xj9 : Stand p l e ({ frames := 1, cells := 3, slots := 192, locals := 12 } : Room) s m #[(.ref a0), (.int p1)] below meth c Tj9 lj9 3 192) (Nj9 : Fr n0 lj9) (ej9 : Tj9.heap = hj9) (Zj9 : n0 ≤ hj9.size) (Kj9 : Keep h0 hj9 [a0]) (fj9_0 : Exa Z hj9 a0 "com/example/resemblr/resemblr/SimHashBlocks") (fj9_1 : Fld Z hj9 a0 "com/example/resemblr/resemblr/SimHashBlocks" "maxDistance" "I" (.int p1)) (fj9_2 : own_AJ Z hj9 b3 n fm) (fj9_3 : Fld Z hj9 a0 "com/example/resemblr/resemblr/SimHashBlocks" "masks" "[J" (.ref b3)) (fj9_4 : own_AI Z hj9 b5 n fsh) (fj9_5 : Fld Z hj9 a0 "com/example/resemblr/resemblr/SimHashBlocks" "shifts" "[I" (.ref b5)) (fj9_6 : own_AI Z hj9 b7 n fw) (fj9_7 : Fld Z hj9 a0 "com/example/resemblr/resemblr/SimHashBlocks" "widths" "[I" (.ref b7)) (Kc9_a0 : own_K hj9 a0) (hii : ii.toInt = (kk : Int)) (hkn : kk ≤ n) (hsh : sh.toInt = ((own_st n kk : Nat) : Int)) (hM : ∀ i, i < kk → own_isM (fm i) (own_st n i) (own_wd n i)) (hmk : mk = n - kk), own_End p e below P Tj9 (mkF m 63 #[.val (.ref a0), .val (.int p1), .val (.int nn), .val (.int sh), .val (.int ii)] []) := by
    intro mk
    induction mk using Nat.strongRecOn with
    | _ mk IHJ63 =>
    intro Tj9 lj9 hj9 fm fsh fw sh ii kk Xj9 Nj9 ej9 Zj9 Kj9 fj9_0 fj9_1 fj9_2 fj9_3 fj9_4 fj9_5 fj9_6 fj9_7 Kc9_a0 hii hkn hsh hM hmk
    have K_a0 := Kc9_a0
    refine own_go (T' := Tj9) (f' := (mkF m 66 #[.val (.ref a0), .val (.int p1), .val (.int nn), .val (.int sh), .val (.int ii)] [(.int nn), (.int ii)])) (fun t kt => ?_) ?_
    · show Steps p.tables e below (Tj9.setTop (mkF m 63 #[.val (.ref a0), .val (.int p1), .val (.int nn), .val (.int sh), .val (.int ii)] [])) t
      refine XS.iload Xj9.here hx rfl (hb hby d1_63) rfl ?_
      show Steps p.tables e below (Tj9.setTop (mkF m 65 #[.val (.ref a0), .val (.int p1), .val (.int nn), .val (.int sh), .val (.int ii)] [(.int ii)])) t
      refine XS.iloadN Xj9.here hx rfl (hb hby d1_65) rfl ?_
      show Steps p.tables e below (Tj9.setTop (mkF m 66 #[.val (.ref a0), .val (.int p1), .val (.int nn), .val (.int sh), .val (.int ii)] [(.int nn), (.int ii)])) t
      exact kt
    by_cases hc66_10 : ii < nn
    · refine own_go (T' := Tj9) (f' := (mkF m 70 #[.val (.ref a0), .val (.int p1), .val (.int nn), .val (.int sh), .val (.int ii)] [(.ref a0)])) (fun t kt => ?_) ?_
      · show Steps p.tables e below (Tj9.setTop (mkF m 66 #[.val (.ref a0), .val (.int p1), .val (.int nn), .val (.int sh), .val (.int ii)] [(.int nn), (.int ii)])) t
        refine XS.icmpNo Xj9.here hx rfl (hb hby d1_66) rfl (tlt hc66_10).2.1 ?_
        show Steps p.tables e below (Tj9.setTop (mkF m 69 #[.val (.ref a0), .val (.int p1), .val (.int nn), .val (.int sh), .val (.int ii)] [])) t
        refine XS.aloadN Xj9.here hx rfl (hb hby d1_69) rfl rfl ?_
        show Steps p.tables e below (Tj9.setTop (mkF m 70 #[.val (.ref a0), .val (.int p1), .val (.int nn), .val (.int sh), .val (.int ii)] [(.ref a0)])) t
        exact kt
      obtain ⟨T11, X11, e11, st11⟩ := getF Xj9 hx hZ hown (host := "") (Or.inl (hw _ (List.mem_of_getElem? (i := 18) rfl))) Via.refl ej9 fj9_7 (g := (mkF m 70 #[.val (.ref a0), .val (.int p1), .val (.int nn), .val (.int sh), .val (.int ii)] [(.ref a0)])) rfl rfl (hb hby d1_70)
      refine own_go st11 ?_
      refine own_go (T' := T11) (f' := (mkF m 85 #[.val (.ref a0), .val (.int p1), .val (.int nn), .val (.int sh), .val (.int ii)] [(.int ((64 : Int32) % nn)), (.int ii), (.int ((64 : Int32) / nn)), (.int ii), (.ref b7)])) (fun t kt => ?_) ?_
      · show Steps p.tables e below (T11.setTop (mkF m 73 #[.val (.ref a0), .val (.int p1), .val (.int nn), .val (.int sh), .val (.int ii)] [(.ref b7)])) t
        refine XS.iload X11.here hx rfl (hb hby d1_73) rfl ?_
        show Steps p.tables e below (T11.setTop (mkF m 75 #[.val (.ref a0), .val (.int p1), .val (.int nn), .val (.int sh), .val (.int ii)] [(.int ii), (.ref b7)])) t
        refine XS.bipush X11.here hx rfl (hb hby d1_75) ?_
        show Steps p.tables e below (T11.setTop (mkF m 77 #[.val (.ref a0), .val (.int p1), .val (.int nn), .val (.int sh), .val (.int ii)] [(.int (64 : Int32)), (.int ii), (.ref b7)])) t
        refine XS.iloadN X11.here hx rfl (hb hby d1_77) rfl ?_
        show Steps p.tables e below (T11.setTop (mkF m 78 #[.val (.ref a0), .val (.int p1), .val (.int nn), .val (.int sh), .val (.int ii)] [(.int nn), (.int (64 : Int32)), (.int ii), (.ref b7)])) t
        refine XS.idiv X11.here hx rfl (hb hby d1_78) rfl (own_nz hnz h0n) ?_
        show Steps p.tables e below (T11.setTop (mkF m 79 #[.val (.ref a0), .val (.int p1), .val (.int nn), .val (.int sh), .val (.int ii)] [(.int ((64 : Int32) / nn)), (.int ii), (.ref b7)])) t
        refine XS.iload X11.here hx rfl (hb hby d1_79) rfl ?_
        show Steps p.tables e below (T11.setTop (mkF m 81 #[.val (.ref a0), .val (.int p1), .val (.int nn), .val (.int sh), .val (.int ii)] [(.int ii), (.int ((64 : Int32) / nn)), (.int ii), (.ref b7)])) t
        refine XS.bipush X11.here hx rfl (hb hby d1_81) ?_
        show Steps p.tables e below (T11.setTop (mkF m 83 #[.val (.ref a0), .val (.int p1), .val (.int nn), .val (.int sh), .val (.int ii)] [(.int (64 : Int32)), (.int ii), (.int ((64 : Int32) / nn)), (.int ii), (.ref b7)])) t
        refine XS.iloadN X11.here hx rfl (hb hby d1_83) rfl ?_
        show Steps p.tables e below (T11.setTop (mkF m 84 #[.val (.ref a0), .val (.int p1), .val (.int nn), .val (.int sh), .val (.int ii)] [(.int nn), (.int (64 : Int32)), (.int ii), (.int ((64 : Int32) / nn)), (.int ii), (.ref b7)])) t
        refine iremM X11 hx rfl (hb hby d1_84) rfl (own_nz hnz h0n) ?_
        show Steps p.tables e below (T11.setTop (mkF m 85 #[.val (.ref a0), .val (.int p1), .val (.int nn), .val (.int sh), .val (.int ii)] [(.int ((64 : Int32) % nn)), (.int ii), (.int ((64 : Int32) / nn)), (.int ii), (.ref b7)])) t
        exact kt
      refine own_go (T' := T11) (f' := (mkF m 93 #[.val (.ref a0), .val (.int p1), .val (.int nn), .val (.int sh), .val (.int ii)] [(.int (own_z (ii < ((64 : Int32) % nn)))), (.int ((64 : Int32) / nn)), (.int ii), (.ref b7)])) (fun t kt => ?_) ?_
      · by_cases hc85_12 : ii < ((64 : Int32) % nn)
        · show Steps p.tables e below (T11.setTop (mkF m 85 #[.val (.ref a0), .val (.int p1), .val (.int nn), .val (.int sh), .val (.int ii)] [(.int ((64 : Int32) % nn)), (.int ii), (.int ((64 : Int32) / nn)), (.int ii), (.ref b7)])) t
          refine XS.icmpNo X11.here hx rfl (hb hby d1_85) rfl (tlt hc85_12).2.1 ?_
          show Steps p.tables e below (T11.setTop (mkF m 88 #[.val (.ref a0), .val (.int p1), .val (.int nn), .val (.int sh), .val (.int ii)] [(.int ((64 : Int32) / nn)), (.int ii), (.ref b7)])) t
          refine XS.iconst X11.here hx rfl (hb hby d1_88) ?_
          show Steps p.tables e below (T11.setTop (mkF m 89 #[.val (.ref a0), .val (.int p1), .val (.int nn), .val (.int sh), .val (.int ii)] [(.int (1 : Int32)), (.int ((64 : Int32) / nn)), (.int ii), (.ref b7)])) t
          refine XS.goto X11.here hx rfl (pc0 := 89) (pc' := 93) rfl (hb hby d1_89) (by decide) (by decide) ?_
          show Steps p.tables e below (T11.setTop (mkF m 93 #[.val (.ref a0), .val (.int p1), .val (.int nn), .val (.int sh), .val (.int ii)] [(.int (1 : Int32)), (.int ((64 : Int32) / nn)), (.int ii), (.ref b7)])) t
          rw [own_z_t (P := ii < ((64 : Int32) % nn)) hc85_12] at kt
          exact kt
        · show Steps p.tables e below (T11.setTop (mkF m 85 #[.val (.ref a0), .val (.int p1), .val (.int nn), .val (.int sh), .val (.int ii)] [(.int ((64 : Int32) % nn)), (.int ii), (.int ((64 : Int32) / nn)), (.int ii), (.ref b7)])) t
          refine XS.icmpYes X11.here hx rfl (pc0 := 85) (pc' := 92) rfl (hb hby d1_85) rfl (flt hc85_12).2.1 (by decide) (by decide) ?_
          show Steps p.tables e below (T11.setTop (mkF m 92 #[.val (.ref a0), .val (.int p1), .val (.int nn), .val (.int sh), .val (.int ii)] [(.int ((64 : Int32) / nn)), (.int ii), (.ref b7)])) t
          refine XS.iconst X11.here hx rfl (hb hby d1_92) ?_
          show Steps p.tables e below (T11.setTop (mkF m 93 #[.val (.ref a0), .val (.int p1), .val (.int nn), .val (.int sh), .val (.int ii)] [(.int (0 : Int32)), (.int ((64 : Int32) / nn)), (.int ii), (.ref b7)])) t
          rw [own_z_f (P := ii < ((64 : Int32) % nn)) hc85_12] at kt
          exact kt
      refine own_go (T' := T11) (f' := (mkF m 94 #[.val (.ref a0), .val (.int p1), .val (.int nn), .val (.int sh), .val (.int ii)] [(.int (((64 : Int32) / nn) + (own_z (ii < ((64 : Int32) % nn))))), (.int ii), (.ref b7)])) (fun t kt => ?_) ?_
      · show Steps p.tables e below (T11.setTop (mkF m 93 #[.val (.ref a0), .val (.int p1), .val (.int nn), .val (.int sh), .val (.int ii)] [(.int (own_z (ii < ((64 : Int32) % nn)))), (.int ((64 : Int32) / nn)), (.int ii), (.ref b7)])) t
        refine XS.iadd X11.here hx rfl (hb hby d1_93) rfl ?_
        show Steps p.tables e below (T11.setTop (mkF m 94 #[.val (.ref a0), .val (.int p1), .val (.int nn), .val (.int sh), .val (.int ii)] [(.int (((64 : Int32) / nn) + (own_z (ii < ((64 : Int32) % nn))))), (.int ii), (.ref b7)])) t
        exact kt
      obtain ⟨ww, hww⟩ : ∃ z, z = (((64 : Int32) / nn) + (own_z (ii < ((64 : Int32) % nn)))) := ⟨_, rfl⟩
      rw [← hww]
      obtain ⟨T13, h13, X13, e13, W13, B13, st13⟩ := own_iastore X11 hx hZ e11 fj9_6 (i := kk) hii ((own_ltn hii hnz).mp hc66_10) (g := (mkF m 94 #[.val (.ref a0), .val (.int p1), .val (.int nn), .val (.int sh), .val (.int ii)] [(.int ww), (.int ii), (.ref b7)])) rfl rfl (hb hby d1_94)
      refine own_go st13 ?_
      replace fj9_0 := (fj9_0.wr W13)
      replace fj9_1 := (fj9_1.other W13 (Or.inl (ne_a0_b7)))
      replace fj9_2 := (fj9_2.other W13 (ne_b3_b7))
      replace fj9_3 := (fj9_3.other W13 (Or.inl (ne_a0_b7)))
      replace fj9_4 := (fj9_4.other W13 (ne_b5_b7))
      replace fj9_5 := (fj9_5.other W13 (Or.inl (ne_a0_b7)))
      replace fj9_7 := (fj9_7.other W13 (Or.inl (ne_a0_b7)))
      replace K_a0 := own_K_wr K_a0 W13
      have N13 := Fr.snoc X13 Nj9 g_b7
      have Z13 : n0 ≤ h13.size := Nat.le_trans Zj9 (Keep.of_wr W13).1
      have KK13 := Kj9.wr W13 (Or.inr sz_b7)
      obtain ⟨fw2, hfw2⟩ : ∃ z, z = (own_set fw kk ww) := ⟨_, rfl⟩
      rw [← hfw2] at B13
      refine own_go (T' := T13) (f' := (mkF m 96 #[.val (.ref a0), .val (.int p1), .val (.int nn), .val (.int sh), .val (.int ii)] [(.ref a0)])) (fun t kt => ?_) ?_
      · show Steps p.tables e below (T13.setTop (mkF m 95 #[.val (.ref a0), .val (.int p1), .val (.int nn), .val (.int sh), .val (.int ii)] [])) t
        refine XS.aloadN X13.here hx rfl (hb hby d1_95) rfl rfl ?_
        show Steps p.tables e below (T13.setTop (mkF m 96 #[.val (.ref a0), .val (.int p1), .val (.int nn), .val (.int sh), .val (.int ii)] [(.ref a0)])) t
        exact kt
      obtain ⟨T14, X14, e14, st14⟩ := getF X13 hx hZ hown (host := "") (Or.inl (hw _ (List.mem_of_getElem? (i := 13) rfl))) Via.refl e13 fj9_3 (g := (mkF m 96 #[.val (.ref a0), .val (.int p1), .val (.int nn), .val (.int sh), .val (.int ii)] [(.ref a0)])) rfl rfl (hb hby d1_96)
      refine own_go st14 ?_
      refine own_go (T' := T14) (f' := (mkF m 107 #[.val (.ref a0), .val (.int p1), .val (.int nn), .val (.int sh), .val (.int ii)] [(.ref a0), (.int (64 : Int32)), (.long (-1 : Int64)), (.int ii), (.ref b3)])) (fun t kt => ?_) ?_
      · show Steps p.tables e below (T14.setTop (mkF m 99 #[.val (.ref a0), .val (.int p1), .val (.int nn), .val (.int sh), .val (.int ii)] [(.ref b3)])) t
        refine XS.iload X14.here hx rfl (hb hby d1_99) rfl ?_
        show Steps p.tables e below (T14.setTop (mkF m 101 #[.val (.ref a0), .val (.int p1), .val (.int nn), .val (.int sh), .val (.int ii)] [(.int ii), (.ref b3)])) t
        refine X14.ldc2Long hx hown (mvT hZ (hw _ (List.mem_of_getElem? (i := 20) rfl))) (g := (mkF m 101 #[.val (.ref a0), .val (.int p1), .val (.int nn), .val (.int sh), .val (.int ii)] [(.int ii), (.ref b3)])) rfl (hb hby d1_101) _ ?_
        show Steps p.tables e below (T14.setTop (mkF m 104 #[.val (.ref a0), .val (.int p1), .val (.int nn), .val (.int sh), .val (.int ii)] [(.long (-1 : Int64)), (.int ii), (.ref b3)])) t
        refine XS.bipush X14.here hx rfl (hb hby d1_104) ?_
        show Steps p.tables e below (T14.setTop (mkF m 106 #[.val (.ref a0), .val (.int p1), .val (.int nn), .val (.int sh), .val (.int ii)] [(.int (64 : Int32)), (.long (-1 : Int64)), (.int ii), (.ref b3)])) t
        refine XS.aloadN X14.here hx rfl (hb hby d1_106) rfl rfl ?_
        show Steps p.tables e below (T14.setTop (mkF m 107 #[.val (.ref a0), .val (.int p1), .val (.int nn), .val (.int sh), .val (.int ii)] [(.ref a0), (.int (64 : Int32)), (.long (-1 : Int64)), (.int ii), (.ref b3)])) t
        exact kt
      obtain ⟨T15, X15, e15, st15⟩ := getF X14 hx hZ hown (host := "") (Or.inl (hw _ (List.mem_of_getElem? (i := 18) rfl))) Via.refl e14 fj9_7 (g := (mkF m 107 #[.val (.ref a0), .val (.int p1), .val (.int nn), .val (.int sh), .val (.int ii)] [(.ref a0), (.int (64 : Int32)), (.long (-1 : Int64)), (.int ii), (.ref b3)])) rfl rfl (hb hby d1_107)
      refine own_go st15 ?_
      refine own_go (T' := T15) (f' := (mkF m 117 #[.val (.ref a0), .val (.int p1), .val (.int nn), .val (.int sh), .val (.int ii)] [(.long ((((-1 : Int64).toUInt64 >>> (((64 : Int32) - (fw2 kk)) &&& 0x3f).toInt64.toUInt64).toInt64) <<< (sh &&& 0x3f).toInt64)), (.int ii), (.ref b3)])) (fun t kt => ?_) ?_
      · show Steps p.tables e below (T15.setTop (mkF m 110 #[.val (.ref a0), .val (.int p1), .val (.int nn), .val (.int sh), .val (.int ii)] [(.ref b7), (.int (64 : Int32)), (.long (-1 : Int64)), (.int ii), (.ref b3)])) t
        refine XS.iload X15.here hx rfl (hb hby d1_110) rfl ?_
        show Steps p.tables e below (T15.setTop (mkF m 112 #[.val (.ref a0), .val (.int p1), .val (.int nn), .val (.int sh), .val (.int ii)] [(.int ii), (.ref b7), (.int (64 : Int32)), (.long (-1 : Int64)), (.int ii), (.ref b3)])) t
        refine own_iaload X15 hx hZ e15 B13 (i := kk) hii ((own_ltn hii hnz).mp hc66_10) (g := (mkF m 112 #[.val (.ref a0), .val (.int p1), .val (.int nn), .val (.int sh), .val (.int ii)] [(.int ii), (.ref b7), (.int (64 : Int32)), (.long (-1 : Int64)), (.int ii), (.ref b3)])) rfl rfl (hb hby d1_112) _ ?_
        show Steps p.tables e below (T15.setTop (mkF m 113 #[.val (.ref a0), .val (.int p1), .val (.int nn), .val (.int sh), .val (.int ii)] [(.int (fw2 kk)), (.int (64 : Int32)), (.long (-1 : Int64)), (.int ii), (.ref b3)])) t
        refine XS.isub X15.here hx rfl (hb hby d1_113) rfl ?_
        show Steps p.tables e below (T15.setTop (mkF m 114 #[.val (.ref a0), .val (.int p1), .val (.int nn), .val (.int sh), .val (.int ii)] [(.int ((64 : Int32) - (fw2 kk))), (.long (-1 : Int64)), (.int ii), (.ref b3)])) t
        refine XS.lushr X15.here hx rfl (hb hby d1_114) rfl ?_
        show Steps p.tables e below (T15.setTop (mkF m 115 #[.val (.ref a0), .val (.int p1), .val (.int nn), .val (.int sh), .val (.int ii)] [(.long (((-1 : Int64).toUInt64 >>> (((64 : Int32) - (fw2 kk)) &&& 0x3f).toInt64.toUInt64).toInt64)), (.int ii), (.ref b3)])) t
        refine XS.iloadN X15.here hx rfl (hb hby d1_115) rfl ?_
        show Steps p.tables e below (T15.setTop (mkF m 116 #[.val (.ref a0), .val (.int p1), .val (.int nn), .val (.int sh), .val (.int ii)] [(.int sh), (.long (((-1 : Int64).toUInt64 >>> (((64 : Int32) - (fw2 kk)) &&& 0x3f).toInt64.toUInt64).toInt64)), (.int ii), (.ref b3)])) t
        refine XS.lshl X15.here hx rfl (hb hby d1_116) rfl ?_
        show Steps p.tables e below (T15.setTop (mkF m 117 #[.val (.ref a0), .val (.int p1), .val (.int nn), .val (.int sh), .val (.int ii)] [(.long ((((-1 : Int64).toUInt64 >>> (((64 : Int32) - (fw2 kk)) &&& 0x3f).toInt64.toUInt64).toInt64) <<< (sh &&& 0x3f).toInt64)), (.int ii), (.ref b3)])) t
        exact kt
      obtain ⟨T16, h16, X16, e16, W16, B16, st16⟩ := own_lastore X15 hx hZ e15 fj9_2 (i := kk) hii ((own_ltn hii hnz).mp hc66_10) (g := (mkF m 117 #[.val (.ref a0), .val (.int p1), .val (.int nn), .val (.int sh), .val (.int ii)] [(.long ((((-1 : Int64).toUInt64 >>> (((64 : Int32) - (fw2 kk)) &&& 0x3f).toInt64.toUInt64).toInt64) <<< (sh &&& 0x3f).toInt64)), (.int ii), (.ref b3)])) rfl rfl (hb hby d1_117)
      refine own_go st16 ?_
      replace fj9_0 := (fj9_0.wr W16)
      replace fj9_1 := (fj9_1.other W16 (Or.inl (ne_a0_b3)))
      replace fj9_3 := (fj9_3.other W16 (Or.inl (ne_a0_b3)))
      replace fj9_4 := (fj9_4.other W16 (ne_b5_b3))
      replace fj9_5 := (fj9_5.other W16 (Or.inl (ne_a0_b3)))
      replace fj9_7 := (fj9_7.other W16 (Or.inl (ne_a0_b3)))
      replace B13 := (B13.other W16 (ne_b7_b3))
      replace K_a0 := own_K_wr K_a0 W16
      have N16 := Fr.snoc X16 N13 g_b3
      have Z16 : n0 ≤ h16.size := Nat.le_trans Z13 (Keep.of_wr W16).1
      have KK16 := KK13.wr W16 (Or.inr sz_b3)
      refine own_go (T' := T16) (f' := (mkF m 119 #[.val (.ref a0), .val (.int p1), .val (.int nn), .val (.int sh), .val (.int ii)] [(.ref a0)])) (fun t kt => ?_) ?_
      · show Steps p.tables e below (T16.setTop (mkF m 118 #[.val (.ref a0), .val (.int p1), .val (.int nn), .val (.int sh), .val (.int ii)] [])) t
        refine XS.aloadN X16.here hx rfl (hb hby d1_118) rfl rfl ?_
        show Steps p.tables e below (T16.setTop (mkF m 119 #[.val (.ref a0), .val (.int p1), .val (.int nn), .val (.int sh), .val (.int ii)] [(.ref a0)])) t
        exact kt
      obtain ⟨T17, X17, e17, st17⟩ := getF X16 hx hZ hown (host := "") (Or.inl (hw _ (List.mem_of_getElem? (i := 16) rfl))) Via.refl e16 fj9_5 (g := (mkF m 119 #[.val (.ref a0), .val (.int p1), .val (.int nn), .val (.int sh), .val (.int ii)] [(.ref a0)])) rfl rfl (hb hby d1_119)
      refine own_go st17 ?_
      refine own_go (T' := T17) (f' := (mkF m 125 #[.val (.ref a0), .val (.int p1), .val (.int nn), .val (.int sh), .val (.int ii)] [(.int sh), (.int ii), (.ref b5)])) (fun t kt => ?_) ?_
      · show Steps p.tables e below (T17.setTop (mkF m 122 #[.val (.ref a0), .val (.int p1), .val (.int nn), .val (.int sh), .val (.int ii)] [(.ref b5)])) t
        refine XS.iload X17.here hx rfl (hb hby d1_122) rfl ?_
        show Steps p.tables e below (T17.setTop (mkF m 124 #[.val (.ref a0), .val (.int p1), .val (.int nn), .val (.int sh), .val (.int ii)] [(.int ii), (.ref b5)])) t
        refine XS.iloadN X17.here hx rfl (hb hby d1_124) rfl ?_
        show Steps p.tables e below (T17.setTop (mkF m 125 #[.val (.ref a0), .val (.int p1), .val (.int nn), .val (.int sh), .val (.int ii)] [(.int sh), (.int ii), (.ref b5)])) t
        exact kt
      obtain ⟨T18, h18, X18, e18, W18, B18, st18⟩ := own_iastore X17 hx hZ e17 fj9_4 (i := kk) hii ((own_ltn hii hnz).mp hc66_10) (g := (mkF m 125 #[.val (.ref a0), .val (.int p1), .val (.int nn), .val (.int sh), .val (.int ii)] [(.int sh), (.int ii), (.ref b5)])) rfl rfl (hb hby d1_125)
      refine own_go st18 ?_
      replace fj9_0 := (fj9_0.wr W18)
      replace fj9_1 := (fj9_1.other W18 (Or.inl (ne_a0_b5)))
      replace fj9_3 := (fj9_3.other W18 (Or.inl (ne_a0_b5)))
      replace fj9_5 := (fj9_5.other W18 (Or.inl (ne_a0_b5)))
      replace fj9_7 := (fj9_7.other W18 (Or.inl (ne_a0_b5)))
      replace B13 := (B13.other W18 (ne_b7_b5))
      replace B16 := (B16.other W18 (ne_b3_b5))
      replace K_a0 := own_K_wr K_a0 W18
      have N18 := Fr.snoc X18 N16 g_b5
      have Z18 : n0 ≤ h18.size := Nat.le_trans Z16 (Keep.of_wr W18).1
      have KK18 := KK16.wr W18 (Or.inr sz_b5)
      refine own_go (T' := T18) (f' := (mkF m 128 #[.val (.ref a0), .val (.int p1), .val (.int nn), .val (.int sh), .val (.int ii)] [(.ref a0), (.int sh)])) (fun t kt => ?_) ?_
      · show Steps p.tables e below (T18.setTop (mkF m 126 #[.val (.ref a0), .val (.int p1), .val (.int nn), .val (.int sh), .val (.int ii)] [])) t
        refine XS.iloadN X18.here hx rfl (hb hby d1_126) rfl ?_
        show Steps p.tables e below (T18.setTop (mkF m 127 #[.val (.ref a0), .val (.int p1), .val (.int nn), .val (.int sh), .val (.int ii)] [(.int sh)])) t
        refine XS.aloadN X18.here hx rfl (hb hby d1_127) rfl rfl ?_
        show Steps p.tables e below (T18.setTop (mkF m 128 #[.val (.ref a0), .val (.int p1), .val (.int nn), .val (.int sh), .val (.int ii)] [(.ref a0), (.int sh)])) t
        exact kt
      obtain ⟨T19, X19, e19, st19⟩ := getF X18 hx hZ hown (host := "") (Or.inl (hw _ (List.mem_of_getElem? (i := 18) rfl))) Via.refl e18 fj9_7 (g := (mkF m 128 #[.val (.ref a0), .val (.int p1), .val (.int nn), .val (.int sh), .val (.int ii)] [(.ref a0), (.int sh)])) rfl rfl (hb hby d1_128)
      refine own_go st19 ?_
      refine own_go (T' := T19) (f' := (mkF m 63 #[.val (.ref a0), .val (.int p1), .val (.int nn), .val (.int (sh + (fw2 kk))), .val (.int (ii + (1 : Int32)))] [])) (fun t kt => ?_) ?_
      · show Steps p.tables e below (T19.setTop (mkF m 131 #[.val (.ref a0), .val (.int p1), .val (.int nn), .val (.int sh), .val (.int ii)] [(.ref b7), (.int sh)])) t
        refine XS.iload X19.here hx rfl (hb hby d1_131) rfl ?_
        show Steps p.tables e below (T19.setTop (mkF m 133 #[.val (.ref a0), .val (.int p1), .val (.int nn), .val (.int sh), .val (.int ii)] [(.int ii), (.ref b7), (.int sh)])) t
        refine own_iaload X19 hx hZ e19 B13 (i := kk) hii ((own_ltn hii hnz).mp hc66_10) (g := (mkF m 133 #[.val (.ref a0), .val (.int p1), .val (.int nn), .val (.int sh), .val (.int ii)] [(.int ii), (.ref b7), (.int sh)])) rfl rfl (hb hby d1_133) _ ?_
        show Steps p.tables e below (T19.setTop (mkF m 134 #[.val (.ref a0), .val (.int p1), .val (.int nn), .val (.int sh), .val (.int ii)] [(.int (fw2 kk)), (.int sh)])) t
        refine XS.iadd X19.here hx rfl (hb hby d1_134) rfl ?_
        show Steps p.tables e below (T19.setTop (mkF m 135 #[.val (.ref a0), .val (.int p1), .val (.int nn), .val (.int sh), .val (.int ii)] [(.int (sh + (fw2 kk)))])) t
        refine XS.istoreN X19.here hx rfl (hb hby d1_135) rfl (l' := #[.val (.ref a0), .val (.int p1), .val (.int nn), .val (.int (sh + (fw2 kk))), .val (.int ii)]) rfl ?_
        show Steps p.tables e below (T19.setTop (mkF m 136 #[.val (.ref a0), .val (.int p1), .val (.int nn), .val (.int (sh + (fw2 kk))), .val (.int ii)] [])) t
        refine XS.iinc X19.here hx rfl (hb hby d1_136) rfl (l' := #[.val (.ref a0), .val (.int p1), .val (.int nn), .val (.int (sh + (fw2 kk))), .val (.int (ii + (1 : Int32)))]) rfl ?_
        show Steps p.tables e below (T19.setTop (mkF m 139 #[.val (.ref a0), .val (.int p1), .val (.int nn), .val (.int (sh + (fw2 kk))), .val (.int (ii + (1 : Int32)))] [])) t
        refine XS.goto X19.here hx rfl (pc0 := 139) (pc' := 63) rfl (hb hby d1_139) (by decide) (by decide) ?_
        show Steps p.tables e below (T19.setTop (mkF m 63 #[.val (.ref a0), .val (.int p1), .val (.int nn), .val (.int (sh + (fw2 kk))), .val (.int (ii + (1 : Int32)))] [])) t
        exact kt
      exact IHJ63 (n - (kk + 1)) (by have q := ((own_ltn hii hnz).mp hc66_10); omega) T19 _ h18 (own_set fm kk ((((-1 : Int64).toUInt64 >>> (((64 : Int32) - (fw2 kk)) &&& 0x3f).toInt64.toUInt64).toInt64) <<< (sh &&& 0x3f).toInt64)) (own_set fsh kk sh) fw2 (sh + (fw2 kk)) (ii + (1 : Int32)) (kk + 1) X19 N18 e19 Z18 KK18 fj9_0 fj9_1 B16 fj9_3 B18 fj9_5 B13 fj9_7 K_a0 (own_inc hii (by have := ((own_ltn hii hnz).mp hc66_10); omega)) ((own_ltn hii hnz).mp hc66_10) (by have w := (own_wdv hnz h0n hn hii hww); have b2 := own_st64 h0n (show kk + 1 ≤ n from ((own_ltn hii hnz).mp hc66_10)); rw [own_stS] at b2 ⊢; rw [(show fw2 kk = ww from by rw [hfw2]; exact own_set_eq rfl), Jvm.Kit.i32_add (by omega) (by omega), hsh, w]; omega) (fun i hi => by
            by_cases q : i = kk
            · rw [q, own_set_eq rfl, (show fw2 kk = ww from by rw [hfw2]; exact own_set_eq rfl)]; exact own_m_ctor (by have o : (64 : Int32).toInt = 64 := rfl; have w := (own_wdv hnz h0n hn hii hww); have b1 := own_wd1 h0n hn kk; have b2 := own_st64 h0n (show kk + 1 ≤ n from ((own_ltn hii hnz).mp hc66_10)); rw [own_stS] at b2; rw [Jvm.Kit.i32_sub (by omega) (by omega), o, w]; omega) (own_wd1 h0n hn kk) (by have b2 := own_st64 h0n (show kk + 1 ≤ n from ((own_ltn hii hnz).mp hc66_10)); rw [own_stS] at b2; omega) hsh (own_st_lt h0n hn ((own_ltn hii hnz).mp hc66_10))
            · rw [own_set_ne q]; exact hM i (by omega)) rfl
    · refine own_go (T' := Tj9) (f' := (mkF m 142 #[.val (.ref a0), .val (.int p1), .val (.int nn), .val (.int sh), .val (.int ii)] [])) (fun t kt => ?_) ?_
      · show Steps p.tables e below (Tj9.setTop (mkF m 66 #[.val (.ref a0), .val (.int p1), .val (.int nn), .val (.int sh), .val (.int ii)] [(.int nn), (.int ii)])) t
        refine XS.icmpYes Xj9.here hx rfl (pc0 := 66) (pc' := 142) rfl (hb hby d1_66) rfl (flt hc66_10).2.1 (by decide) (by decide) ?_
        show Steps p.tables e below (Tj9.setTop (mkF m 142 #[.val (.ref a0), .val (.int p1), .val (.int nn), .val (.int sh), .val (.int ii)] [])) t
        exact kt
      exact own_retV Xj9 hP hx hlk ej9 hret (hb hby d1_142) (by decide) (by decide) ⟨rfl, Nj9, Kj9, fj9_0, ⟨_, fm, g_b3, sz_b3, fj9_3, fj9_2, fun i hi => hM i (by have := mt (own_ltn hii hnz).mpr hc66_10; omega)⟩⟩
  exact J63 n T8 _ h8 (fun _ => (0 : Int64)) (fun _ => (0 : Int32)) (fun _ => (0 : Int32)) (0 : Int32) (0 : Int32) 0 X8 N8 e8 Z8 KK8 E_a0 F2_maxDistance Ar_b3 F4_masks Ar_b5 F6_shifts Ar_b7 F8_widths K_a0 rfl (Nat.zero_le _) (by rw [own_st0]; rfl) (fun i hi => absurd hi (Nat.not_lt_zero _)) rfl
theorem pd_1 : parseMethodDescriptor "(I)V" = some ⟨[.int], none⟩ := by decide +kernel
theorem pd_2 : parseMethodDescriptor "(I)J" = some ⟨[.int], some .long⟩ := by decide +kernel
theorem pd_3 : parseMethodDescriptor "(II)J" = some ⟨[.int, .int], some .long⟩ := by decide +kernel
theorem pd_4 : parseMethodDescriptor "(JJ)I" = some ⟨[.long, .long], some .int⟩ := by decide +kernel
set_option maxRecDepth 65536 in
set_option maxHeartbeats 4000000 in
theorem ef_0 (m : MethodId) (p0 : Int32) (p1 : Int32) (q2 : Int64) (q3 : Int64) (q4 : Int64) : entryFrame m #[(.int p0), (.int p1), (.long q2), (.long q3), (.long q4)] maxLocals = mkF m 0 #[.val (.int p0), .val (.int p1), .val (.long q2), .second, .val (.long q3), .second, .val (.long q4), .second, .unset, .unset, .unset, .unset, .unset, .unset, .unset, .unset, .unset, .unset, .unset, .unset, .unset, .unset, .unset, .unset, .unset, .unset] [] := by first | (simp [entryFrame, mkF, argsToLocals, Value.category, maxLocals]; done) | rfl
set_option maxRecDepth 65536 in
set_option maxHeartbeats 40000000 in
theorem rm0 (l : Launch) (Z : State) (aw : Array Value) (hw : ∀ d ∈ tables_1, d.before aw Z = true) {ws : List Jvm.Cond} (p0 : Int32) (p1 : Int32) (q2 : Int64) (q3 : Int64) (q4 : Int64)  (h0 : Heap) (n0 : Nat) (Z0 : n0 ≤ h0.size)  :
    own_Met l Z x code maxLocals ret ws room_1 #[(.int p0), (.int p1), (.long q2), (.long q3), (.long q4)] h0 (fun v h L => v = some (.int 1) ∧ Fr n0 L) := by
  refine own_body (plainFor_of_name pn_0) ?_
  intro p e s m below meth c s₁ hx hZ hby hml hown hnm hret hlk X0 e0
  replace hown : s.vm.findClass "com/example/resemblr/resemblr/SimHashBlocksFirstSharedPinLaw" = some m.cls := hown
  replace hml : c.maxLocals = 26 := hml
  have N0 := Fr.nil n0
  have K0 := Keep.refl h0 []
  obtain ⟨P, hP⟩ : ∃ P, P = own_P below s (fun v h L => v = some (.int 1) ∧ Fr n0 L) room_1.cells room_1.slots := ⟨_, rfl⟩
  rw [← hP]
  refine own_cast (ef_0 m p0 p1 q2 q3 q4) ?_
  refine own_go (T' := s₁) (f' := (mkF m 7 #[.val (.int p0), .val (.int p1), .val (.long q2), .second, .val (.long q3), .second, .val (.long q4), .second, .unset, .unset, .unset, .unset, .unset, .unset, .unset, .unset, .unset, .unset, .unset, .unset, .unset, .unset, .unset, .unset, .unset, .unset] [(.int ((p0 &&& (2147483647 : Int32)) % (64 : Int32)))])) (fun t kt => ?_) ?_
  · show Steps p.tables e below (s₁.setTop (mkF m 0 #[.val (.int p0), .val (.int p1), .val (.long q2), .second, .val (.long q3), .second, .val (.long q4), .second, .unset, .unset, .unset, .unset, .unset, .unset, .unset, .unset, .unset, .unset, .unset, .unset, .unset, .unset, .unset, .unset, .unset, .unset] [])) t
    refine XS.iloadN X0.here hx rfl (hb hby at_0) rfl ?_
    show Steps p.tables e below (s₁.setTop (mkF m 1 #[.val (.int p0), .val (.int p1), .val (.long q2), .second, .val (.long q3), .second, .val (.long q4), .second, .unset, .unset, .unset, .unset, .unset, .unset, .unset, .unset, .unset, .unset, .unset, .unset, .unset, .unset, .unset, .unset, .unset, .unset] [(.int p0)])) t
    refine X0.ldcInt hx hown (mvT hZ (hw _ (List.mem_of_getElem? (i := 0) rfl))) (g := (mkF m 1 #[.val (.int p0), .val (.int p1), .val (.long q2), .second, .val (.long q3), .second, .val (.long q4), .second, .unset, .unset, .unset, .unset, .unset, .unset, .unset, .unset, .unset, .unset, .unset, .unset, .unset, .unset, .unset, .unset, .unset, .unset] [(.int p0)])) rfl (hb hby at_1) _ ?_
    show Steps p.tables e below (s₁.setTop (mkF m 3 #[.val (.int p0), .val (.int p1), .val (.long q2), .second, .val (.long q3), .second, .val (.long q4), .second, .unset, .unset, .unset, .unset, .unset, .unset, .unset, .unset, .unset, .unset, .unset, .unset, .unset, .unset, .unset, .unset, .unset, .unset] [(.int (2147483647 : Int32)), (.int p0)])) t
    refine XS.iand X0.here hx rfl (hb hby at_3) rfl ?_
    show Steps p.tables e below (s₁.setTop (mkF m 4 #[.val (.int p0), .val (.int p1), .val (.long q2), .second, .val (.long q3), .second, .val (.long q4), .second, .unset, .unset, .unset, .unset, .unset, .unset, .unset, .unset, .unset, .unset, .unset, .unset, .unset, .unset, .unset, .unset, .unset, .unset] [(.int (p0 &&& (2147483647 : Int32)))])) t
    refine XS.bipush X0.here hx rfl (hb hby at_4) ?_
    show Steps p.tables e below (s₁.setTop (mkF m 6 #[.val (.int p0), .val (.int p1), .val (.long q2), .second, .val (.long q3), .second, .val (.long q4), .second, .unset, .unset, .unset, .unset, .unset, .unset, .unset, .unset, .unset, .unset, .unset, .unset, .unset, .unset, .unset, .unset, .unset, .unset] [(.int (64 : Int32)), (.int (p0 &&& (2147483647 : Int32)))])) t
    refine iremM X0 hx rfl (hb hby at_6) rfl (by decide) ?_
    show Steps p.tables e below (s₁.setTop (mkF m 7 #[.val (.int p0), .val (.int p1), .val (.long q2), .second, .val (.long q3), .second, .val (.long q4), .second, .unset, .unset, .unset, .unset, .unset, .unset, .unset, .unset, .unset, .unset, .unset, .unset, .unset, .unset, .unset, .unset, .unset, .unset] [(.int ((p0 &&& (2147483647 : Int32)) % (64 : Int32)))])) t
    exact kt
  obtain ⟨kv, hkv⟩ : ∃ z, z = ((p0 &&& (2147483647 : Int32)) % (64 : Int32)) := ⟨_, rfl⟩
  rw [← hkv]
  refine own_go (T' := s₁) (f' := (mkF m 13 #[.val (.int p0), .val (.int p1), .val (.long q2), .second, .val (.long q3), .second, .val (.long q4), .second, .val (.int kv), .unset, .unset, .unset, .unset, .unset, .unset, .unset, .unset, .unset, .unset, .unset, .unset, .unset, .unset, .unset, .unset, .unset] [(.int (kv + (1 : Int32)))])) (fun t kt => ?_) ?_
  · show Steps p.tables e below (s₁.setTop (mkF m 7 #[.val (.int p0), .val (.int p1), .val (.long q2), .second, .val (.long q3), .second, .val (.long q4), .second, .unset, .unset, .unset, .unset, .unset, .unset, .unset, .unset, .unset, .unset, .unset, .unset, .unset, .unset, .unset, .unset, .unset, .unset] [(.int kv)])) t
    refine XS.istore X0.here hx rfl (hb hby at_7) rfl (l' := #[.val (.int p0), .val (.int p1), .val (.long q2), .second, .val (.long q3), .second, .val (.long q4), .second, .val (.int kv), .unset, .unset, .unset, .unset, .unset, .unset, .unset, .unset, .unset, .unset, .unset, .unset, .unset, .unset, .unset, .unset, .unset]) rfl ?_
    show Steps p.tables e below (s₁.setTop (mkF m 9 #[.val (.int p0), .val (.int p1), .val (.long q2), .second, .val (.long q3), .second, .val (.long q4), .second, .val (.int kv), .unset, .unset, .unset, .unset, .unset, .unset, .unset, .unset, .unset, .unset, .unset, .unset, .unset, .unset, .unset, .unset, .unset] [])) t
    refine XS.iload X0.here hx rfl (hb hby at_9) rfl ?_
    show Steps p.tables e below (s₁.setTop (mkF m 11 #[.val (.int p0), .val (.int p1), .val (.long q2), .second, .val (.long q3), .second, .val (.long q4), .second, .val (.int kv), .unset, .unset, .unset, .unset, .unset, .unset, .unset, .unset, .unset, .unset, .unset, .unset, .unset, .unset, .unset, .unset, .unset] [(.int kv)])) t
    refine XS.iconst X0.here hx rfl (hb hby at_11) ?_
    show Steps p.tables e below (s₁.setTop (mkF m 12 #[.val (.int p0), .val (.int p1), .val (.long q2), .second, .val (.long q3), .second, .val (.long q4), .second, .val (.int kv), .unset, .unset, .unset, .unset, .unset, .unset, .unset, .unset, .unset, .unset, .unset, .unset, .unset, .unset, .unset, .unset, .unset] [(.int (1 : Int32)), (.int kv)])) t
    refine XS.iadd X0.here hx rfl (hb hby at_12) rfl ?_
    show Steps p.tables e below (s₁.setTop (mkF m 13 #[.val (.int p0), .val (.int p1), .val (.long q2), .second, .val (.long q3), .second, .val (.long q4), .second, .val (.int kv), .unset, .unset, .unset, .unset, .unset, .unset, .unset, .unset, .unset, .unset, .unset, .unset, .unset, .unset, .unset, .unset, .unset] [(.int (kv + (1 : Int32)))])) t
    exact kt
  obtain ⟨nv, hnv⟩ : ∃ z, z = (kv + (1 : Int32)) := ⟨_, rfl⟩
  rw [← hnv]
  refine own_go (T' := s₁) (f' := (mkF m 24 #[.val (.int p0), .val (.int p1), .val (.long q2), .second, .val (.long q3), .second, .val (.long q4), .second, .val (.int kv), .val (.int nv), .unset, .unset, .unset, .unset, .unset, .unset, .unset, .unset, .unset, .unset, .unset, .unset, .unset, .unset, .unset, .unset] [(.int ((p1 &&& (2147483647 : Int32)) % (nv + (1 : Int32))))])) (fun t kt => ?_) ?_
  · show Steps p.tables e below (s₁.setTop (mkF m 13 #[.val (.int p0), .val (.int p1), .val (.long q2), .second, .val (.long q3), .second, .val (.long q4), .second, .val (.int kv), .unset, .unset, .unset, .unset, .unset, .unset, .unset, .unset, .unset, .unset, .unset, .unset, .unset, .unset, .unset, .unset, .unset] [(.int nv)])) t
    refine XS.istore X0.here hx rfl (hb hby at_13) rfl (l' := #[.val (.int p0), .val (.int p1), .val (.long q2), .second, .val (.long q3), .second, .val (.long q4), .second, .val (.int kv), .val (.int nv), .unset, .unset, .unset, .unset, .unset, .unset, .unset, .unset, .unset, .unset, .unset, .unset, .unset, .unset, .unset, .unset]) rfl ?_
    show Steps p.tables e below (s₁.setTop (mkF m 15 #[.val (.int p0), .val (.int p1), .val (.long q2), .second, .val (.long q3), .second, .val (.long q4), .second, .val (.int kv), .val (.int nv), .unset, .unset, .unset, .unset, .unset, .unset, .unset, .unset, .unset, .unset, .unset, .unset, .unset, .unset, .unset, .unset] [])) t
    refine XS.iloadN X0.here hx rfl (hb hby at_15) rfl ?_
    show Steps p.tables e below (s₁.setTop (mkF m 16 #[.val (.int p0), .val (.int p1), .val (.long q2), .second, .val (.long q3), .second, .val (.long q4), .second, .val (.int kv), .val (.int nv), .unset, .unset, .unset, .unset, .unset, .unset, .unset, .unset, .unset, .unset, .unset, .unset, .unset, .unset, .unset, .unset] [(.int p1)])) t
    refine X0.ldcInt hx hown (mvT hZ (hw _ (List.mem_of_getElem? (i := 0) rfl))) (g := (mkF m 16 #[.val (.int p0), .val (.int p1), .val (.long q2), .second, .val (.long q3), .second, .val (.long q4), .second, .val (.int kv), .val (.int nv), .unset, .unset, .unset, .unset, .unset, .unset, .unset, .unset, .unset, .unset, .unset, .unset, .unset, .unset, .unset, .unset] [(.int p1)])) rfl (hb hby at_16) _ ?_
    show Steps p.tables e below (s₁.setTop (mkF m 18 #[.val (.int p0), .val (.int p1), .val (.long q2), .second, .val (.long q3), .second, .val (.long q4), .second, .val (.int kv), .val (.int nv), .unset, .unset, .unset, .unset, .unset, .unset, .unset, .unset, .unset, .unset, .unset, .unset, .unset, .unset, .unset, .unset] [(.int (2147483647 : Int32)), (.int p1)])) t
    refine XS.iand X0.here hx rfl (hb hby at_18) rfl ?_
    show Steps p.tables e below (s₁.setTop (mkF m 19 #[.val (.int p0), .val (.int p1), .val (.long q2), .second, .val (.long q3), .second, .val (.long q4), .second, .val (.int kv), .val (.int nv), .unset, .unset, .unset, .unset, .unset, .unset, .unset, .unset, .unset, .unset, .unset, .unset, .unset, .unset, .unset, .unset] [(.int (p1 &&& (2147483647 : Int32)))])) t
    refine XS.iload X0.here hx rfl (hb hby at_19) rfl ?_
    show Steps p.tables e below (s₁.setTop (mkF m 21 #[.val (.int p0), .val (.int p1), .val (.long q2), .second, .val (.long q3), .second, .val (.long q4), .second, .val (.int kv), .val (.int nv), .unset, .unset, .unset, .unset, .unset, .unset, .unset, .unset, .unset, .unset, .unset, .unset, .unset, .unset, .unset, .unset] [(.int nv), (.int (p1 &&& (2147483647 : Int32)))])) t
    refine XS.iconst X0.here hx rfl (hb hby at_21) ?_
    show Steps p.tables e below (s₁.setTop (mkF m 22 #[.val (.int p0), .val (.int p1), .val (.long q2), .second, .val (.long q3), .second, .val (.long q4), .second, .val (.int kv), .val (.int nv), .unset, .unset, .unset, .unset, .unset, .unset, .unset, .unset, .unset, .unset, .unset, .unset, .unset, .unset, .unset, .unset] [(.int (1 : Int32)), (.int nv), (.int (p1 &&& (2147483647 : Int32)))])) t
    refine XS.iadd X0.here hx rfl (hb hby at_22) rfl ?_
    show Steps p.tables e below (s₁.setTop (mkF m 23 #[.val (.int p0), .val (.int p1), .val (.long q2), .second, .val (.long q3), .second, .val (.long q4), .second, .val (.int kv), .val (.int nv), .unset, .unset, .unset, .unset, .unset, .unset, .unset, .unset, .unset, .unset, .unset, .unset, .unset, .unset, .unset, .unset] [(.int (nv + (1 : Int32))), (.int (p1 &&& (2147483647 : Int32)))])) t
    refine iremM X0 hx rfl (hb hby at_23) rfl (own_nz1 hkv hnv) ?_
    show Steps p.tables e below (s₁.setTop (mkF m 24 #[.val (.int p0), .val (.int p1), .val (.long q2), .second, .val (.long q3), .second, .val (.long q4), .second, .val (.int kv), .val (.int nv), .unset, .unset, .unset, .unset, .unset, .unset, .unset, .unset, .unset, .unset, .unset, .unset, .unset, .unset, .unset, .unset] [(.int ((p1 &&& (2147483647 : Int32)) % (nv + (1 : Int32))))])) t
    exact kt
  obtain ⟨jv, hjv⟩ : ∃ z, z = ((p1 &&& (2147483647 : Int32)) % (nv + (1 : Int32))) := ⟨_, rfl⟩
  rw [← hjv]
  refine own_go (T' := s₁) (f' := (mkF m 26 #[.val (.int p0), .val (.int p1), .val (.long q2), .second, .val (.long q3), .second, .val (.long q4), .second, .val (.int kv), .val (.int nv), .val (.int jv), .unset, .unset, .unset, .unset, .unset, .unset, .unset, .unset, .unset, .unset, .unset, .unset, .unset, .unset, .unset] [])) (fun t kt => ?_) ?_
  · show Steps p.tables e below (s₁.setTop (mkF m 24 #[.val (.int p0), .val (.int p1), .val (.long q2), .second, .val (.long q3), .second, .val (.long q4), .second, .val (.int kv), .val (.int nv), .unset, .unset, .unset, .unset, .unset, .unset, .unset, .unset, .unset, .unset, .unset, .unset, .unset, .unset, .unset, .unset] [(.int jv)])) t
    refine XS.istore X0.here hx rfl (hb hby at_24) rfl (l' := #[.val (.int p0), .val (.int p1), .val (.long q2), .second, .val (.long q3), .second, .val (.long q4), .second, .val (.int kv), .val (.int nv), .val (.int jv), .unset, .unset, .unset, .unset, .unset, .unset, .unset, .unset, .unset, .unset, .unset, .unset, .unset, .unset, .unset]) rfl ?_
    show Steps p.tables e below (s₁.setTop (mkF m 26 #[.val (.int p0), .val (.int p1), .val (.long q2), .second, .val (.long q3), .second, .val (.long q4), .second, .val (.int kv), .val (.int nv), .val (.int jv), .unset, .unset, .unset, .unset, .unset, .unset, .unset, .unset, .unset, .unset, .unset, .unset, .unset, .unset, .unset] [])) t
    exact kt
  obtain ⟨nt, hnt0⟩ : ∃ k : Nat, k = nv.toInt.toNat := ⟨_, rfl⟩
  obtain ⟨h0t, hnt, hnv', hzt⟩ := own_kb hkv hnv hnt0
  obtain ⟨jt, hjt0⟩ : ∃ k : Nat, k = jv.toInt.toNat := ⟨_, rfl⟩
  obtain ⟨hjt, hjn⟩ := own_jb hjv hnv' hnt hjt0
  obtain ⟨T1, h1, X1, e1, E1, A1, D1, U1, st1⟩ := newO X0 hx hZ hown (hw _ (List.mem_of_getElem? (i := 1) rfl)) (hw _ (List.mem_of_getElem? (i := 2) rfl)) (hw _ (List.mem_of_getElem? (i := 3) rfl)) e0 (g := (mkF m 26 #[.val (.int p0), .val (.int p1), .val (.long q2), .second, .val (.long q3), .second, .val (.long q4), .second, .val (.int kv), .val (.int nv), .val (.int jv), .unset, .unset, .unset, .unset, .unset, .unset, .unset, .unset, .unset, .unset, .unset, .unset, .unset, .unset, .unset] [])) rfl (hb hby at_26) (by decide) (by decide)
  obtain ⟨b1, y1⟩ : ∃ z, z = h0.size := ⟨_, rfl⟩
  rw [← y1] at A1 D1 U1 st1
  have g_b1 : n0 ≤ b1 := Nat.le_trans Z0 (Nat.le_of_eq y1.symm)
  have sz_b1 : h0.size ≤ b1 := Nat.le_trans K0.1 (Nat.le_of_eq y1.symm)
  have ZE1 : n0 ≤ h1.size := Nat.le_trans Z0 E1.1
  have KKE1 := K0.ext E1
  refine own_go st1 ?_
  have K_b1 := own_K_new U1
  refine own_go (T' := T1) (f' := (mkF m 32 #[.val (.int p0), .val (.int p1), .val (.long q2), .second, .val (.long q3), .second, .val (.long q4), .second, .val (.int kv), .val (.int nv), .val (.int jv), .unset, .unset, .unset, .unset, .unset, .unset, .unset, .unset, .unset, .unset, .unset, .unset, .unset, .unset, .unset] [(.int kv), (.ref b1), (.ref b1)])) (fun t kt => ?_) ?_
  · show Steps p.tables e below (T1.setTop (mkF m 29 #[.val (.int p0), .val (.int p1), .val (.long q2), .second, .val (.long q3), .second, .val (.long q4), .second, .val (.int kv), .val (.int nv), .val (.int jv), .unset, .unset, .unset, .unset, .unset, .unset, .unset, .unset, .unset, .unset, .unset, .unset, .unset, .unset, .unset] [(.ref b1)])) t
    refine XS.dup X1.here hx rfl (hb hby at_29) rfl rfl ?_
    show Steps p.tables e below (T1.setTop (mkF m 30 #[.val (.int p0), .val (.int p1), .val (.long q2), .second, .val (.long q3), .second, .val (.long q4), .second, .val (.int kv), .val (.int nv), .val (.int jv), .unset, .unset, .unset, .unset, .unset, .unset, .unset, .unset, .unset, .unset, .unset, .unset, .unset, .unset, .unset] [(.ref b1), (.ref b1)])) t
    refine XS.iload X1.here hx rfl (hb hby at_30) rfl ?_
    show Steps p.tables e below (T1.setTop (mkF m 32 #[.val (.int p0), .val (.int p1), .val (.long q2), .second, .val (.long q3), .second, .val (.long q4), .second, .val (.int kv), .val (.int nv), .val (.int jv), .unset, .unset, .unset, .unset, .unset, .unset, .unset, .unset, .unset, .unset, .unset, .unset, .unset, .unset, .unset] [(.int kv), (.ref b1), (.ref b1)])) t
    exact kt
  have lt2_b1 := A1.lt
  refine own_callC X1 hx hZ hown e1 rfl (hw _ (List.mem_of_getElem? (i := 4) rfl)) (hw _ (List.mem_of_getElem? (i := 5) rfl)) (hw _ (List.mem_of_getElem? (i := 3) rfl)) (hw _ (List.mem_of_getElem? (i := 6) rfl)) (by decide) (rm1 l Z aw hw b1 kv nt h1 n0 ZE1 A1 K_b1 g_b1 hzt h0t hnt (own_kb2 hkv).1 (own_kb2 hkv).2) (g := (mkF m 32 #[.val (.int p0), .val (.int p1), .val (.long q2), .second, .val (.long q3), .second, .val (.long q4), .second, .val (.int kv), .val (.int nv), .val (.int jv), .unset, .unset, .unset, .unset, .unset, .unset, .unset, .unset, .unset, .unset, .unset, .unset, .unset, .unset, .unset] [(.int kv), (.ref b1), (.ref b1)])) rfl (by rw [hml]; rfl) (argsL := [(.int kv)]) (rest := [(.ref b1)]) (lenOf pd_1 rfl) rfl rfl (W := 1) (by show 2 * 0 + _ ≤ _; exact Nat.le_of_eq rfl) (hb hby at_32) (by decide) (by decide) (by decide) (by decide) ?_
  rintro _ T2 L2 X2 ⟨rfl, Nq2, Kq2, Pq2_0, Pq2_1⟩
  have N2 := Fr.app N0 Nq2
  replace A1 := (A1.keep Kq2)
  replace K_b1 := own_K_keep K_b1 Kq2
  have ZKq2 : n0 ≤ T2.heap.size := Nat.le_trans ZE1 Kq2.1
  have KKKq2 := KKE1.trans Kq2 ((allS (Or.inr sz_b1) all0))
  obtain ⟨r2, fm, g_r2, z_r2, F_r2, Ar_r2, hfm⟩ := Pq2_1
  have ne_b1_r2 : b1 ≠ r2 := Nat.ne_of_lt (Nat.lt_of_lt_of_le lt2_b1 z_r2)
  have ne_r2_b1 := ne_b1_r2.symm
  have sz_r2 : h0.size ≤ r2 := Nat.le_trans KKE1.1 z_r2
  refine own_go (T' := T2) (f' := (mkF m 41 #[.val (.int p0), .val (.int p1), .val (.long q2), .second, .val (.long q3), .second, .val (.long q4), .second, .val (.int kv), .val (.int nv), .val (.int jv), .val (.ref b1), .unset, .unset, .unset, .unset, .unset, .unset, .unset, .unset, .unset, .unset, .unset, .unset, .unset, .unset] [(.int jv), (.int kv)])) (fun t kt => ?_) ?_
  · show Steps p.tables e below (T2.setTop (mkF m 35 #[.val (.int p0), .val (.int p1), .val (.long q2), .second, .val (.long q3), .second, .val (.long q4), .second, .val (.int kv), .val (.int nv), .val (.int jv), .unset, .unset, .unset, .unset, .unset, .unset, .unset, .unset, .unset, .unset, .unset, .unset, .unset, .unset, .unset] [(.ref b1)])) t
    refine XS.astore X2.here hx rfl (hb hby at_35) rfl rfl (l' := #[.val (.int p0), .val (.int p1), .val (.long q2), .second, .val (.long q3), .second, .val (.long q4), .second, .val (.int kv), .val (.int nv), .val (.int jv), .val (.ref b1), .unset, .unset, .unset, .unset, .unset, .unset, .unset, .unset, .unset, .unset, .unset, .unset, .unset, .unset]) rfl ?_
    show Steps p.tables e below (T2.setTop (mkF m 37 #[.val (.int p0), .val (.int p1), .val (.long q2), .second, .val (.long q3), .second, .val (.long q4), .second, .val (.int kv), .val (.int nv), .val (.int jv), .val (.ref b1), .unset, .unset, .unset, .unset, .unset, .unset, .unset, .unset, .unset, .unset, .unset, .unset, .unset, .unset] [])) t
    refine XS.iload X2.here hx rfl (hb hby at_37) rfl ?_
    show Steps p.tables e below (T2.setTop (mkF m 39 #[.val (.int p0), .val (.int p1), .val (.long q2), .second, .val (.long q3), .second, .val (.long q4), .second, .val (.int kv), .val (.int nv), .val (.int jv), .val (.ref b1), .unset, .unset, .unset, .unset, .unset, .unset, .unset, .unset, .unset, .unset, .unset, .unset, .unset, .unset] [(.int kv)])) t
    refine XS.iload X2.here hx rfl (hb hby at_39) rfl ?_
    show Steps p.tables e below (T2.setTop (mkF m 41 #[.val (.int p0), .val (.int p1), .val (.long q2), .second, .val (.long q3), .second, .val (.long q4), .second, .val (.int kv), .val (.int nv), .val (.int jv), .val (.ref b1), .unset, .unset, .unset, .unset, .unset, .unset, .unset, .unset, .unset, .unset, .unset, .unset, .unset, .unset] [(.int jv), (.int kv)])) t
    exact kt
  refine own_callSp X2 hx hZ hown rfl (hw _ (List.mem_of_getElem? (i := 21) rfl)) (hw _ (List.mem_of_getElem? (i := 22) rfl)) (hw _ (List.mem_of_getElem? (i := 23) rfl)) (hw _ (List.mem_of_getElem? (i := 24) rfl)) (by decide) (rm3 l Z aw hw kv jv nt jt T2.heap n0 ZKq2 hzt h0t hnt hjt hjn) (g := (mkF m 41 #[.val (.int p0), .val (.int p1), .val (.long q2), .second, .val (.long q3), .second, .val (.long q4), .second, .val (.int kv), .val (.int nv), .val (.int jv), .val (.ref b1), .unset, .unset, .unset, .unset, .unset, .unset, .unset, .unset, .unset, .unset, .unset, .unset, .unset, .unset] [(.int jv), (.int kv)])) rfl (by rw [hml]; rfl) (argsL := [(.int kv), (.int jv)]) (rest := []) (lenOf pd_0 rfl) rfl rfl (W := 0) (by show 2 * 0 + _ ≤ _; exact Nat.le_of_eq rfl) (hb hby at_41) (by decide) (by decide) (by decide) (by decide) ?_
  intro T3 X3 e3
  refine own_callSp X3 hx hZ hown e3 (hw _ (List.mem_of_getElem? (i := 29) rfl)) (hw _ (List.mem_of_getElem? (i := 30) rfl)) (hw _ (List.mem_of_getElem? (i := 23) rfl)) (hw _ (List.mem_of_getElem? (i := 31) rfl)) (by decide) (rm5 l Z aw hw (Int32.ofNat (own_st nt jt)) T2.heap n0 ZKq2) (g := (mkF m 44 #[.val (.int p0), .val (.int p1), .val (.long q2), .second, .val (.long q3), .second, .val (.long q4), .second, .val (.int kv), .val (.int nv), .val (.int jv), .val (.ref b1), .unset, .unset, .unset, .unset, .unset, .unset, .unset, .unset, .unset, .unset, .unset, .unset, .unset, .unset] [(.int (Int32.ofNat (own_st nt jt)))])) rfl (by rw [hml]; rfl) (argsL := [(.int (Int32.ofNat (own_st nt jt)))]) (rest := []) (lenOf pd_2 rfl) rfl rfl (W := 0) (by show 2 * 0 + _ ≤ _; exact Nat.le_of_eq rfl) (hb hby at_44) (by decide) (by decide) (by decide) (by decide) ?_
  intro T4 X4 e4
  obtain ⟨low, hlow⟩ : ∃ z, z = (own_lw (Int32.ofNat (own_st nt jt))) := ⟨_, rfl⟩
  rw [← hlow]
  refine own_go (T' := T4) (f' := (mkF m 53 #[.val (.int p0), .val (.int p1), .val (.long q2), .second, .val (.long q3), .second, .val (.long q4), .second, .val (.int kv), .val (.int nv), .val (.int jv), .val (.ref b1), .val (.long low), .second, .unset, .unset, .unset, .unset, .unset, .unset, .unset, .unset, .unset, .unset, .unset, .unset] [(.int nv), (.int jv)])) (fun t kt => ?_) ?_
  · show Steps p.tables e below (T4.setTop (mkF m 47 #[.val (.int p0), .val (.int p1), .val (.long q2), .second, .val (.long q3), .second, .val (.long q4), .second, .val (.int kv), .val (.int nv), .val (.int jv), .val (.ref b1), .unset, .unset, .unset, .unset, .unset, .unset, .unset, .unset, .unset, .unset, .unset, .unset, .unset, .unset] [(.long low)])) t
    refine XS.lstore X4.here hx rfl (hb hby at_47) rfl (l' := #[.val (.int p0), .val (.int p1), .val (.long q2), .second, .val (.long q3), .second, .val (.long q4), .second, .val (.int kv), .val (.int nv), .val (.int jv), .val (.ref b1), .val (.long low), .second, .unset, .unset, .unset, .unset, .unset, .unset, .unset, .unset, .unset, .unset, .unset, .unset]) rfl ?_
    show Steps p.tables e below (T4.setTop (mkF m 49 #[.val (.int p0), .val (.int p1), .val (.long q2), .second, .val (.long q3), .second, .val (.long q4), .second, .val (.int kv), .val (.int nv), .val (.int jv), .val (.ref b1), .val (.long low), .second, .unset, .unset, .unset, .unset, .unset, .unset, .unset, .unset, .unset, .unset, .unset, .unset] [])) t
    refine XS.iload X4.here hx rfl (hb hby at_49) rfl ?_
    show Steps p.tables e below (T4.setTop (mkF m 51 #[.val (.int p0), .val (.int p1), .val (.long q2), .second, .val (.long q3), .second, .val (.long q4), .second, .val (.int kv), .val (.int nv), .val (.int jv), .val (.ref b1), .val (.long low), .second, .unset, .unset, .unset, .unset, .unset, .unset, .unset, .unset, .unset, .unset, .unset, .unset] [(.int jv)])) t
    refine XS.iload X4.here hx rfl (hb hby at_51) rfl ?_
    show Steps p.tables e below (T4.setTop (mkF m 53 #[.val (.int p0), .val (.int p1), .val (.long q2), .second, .val (.long q3), .second, .val (.long q4), .second, .val (.int kv), .val (.int nv), .val (.int jv), .val (.ref b1), .val (.long low), .second, .unset, .unset, .unset, .unset, .unset, .unset, .unset, .unset, .unset, .unset, .unset, .unset] [(.int nv), (.int jv)])) t
    exact kt
  by_cases hc53_5 : jv < nv
  · refine own_go (T' := T4) (f' := (mkF m 60 #[.val (.int p0), .val (.int p1), .val (.long q2), .second, .val (.long q3), .second, .val (.long q4), .second, .val (.int kv), .val (.int nv), .val (.int jv), .val (.ref b1), .val (.long low), .second, .unset, .unset, .unset, .unset, .unset, .unset, .unset, .unset, .unset, .unset, .unset, .unset] [(.int jv), (.int kv)])) (fun t kt => ?_) ?_
    · show Steps p.tables e below (T4.setTop (mkF m 53 #[.val (.int p0), .val (.int p1), .val (.long q2), .second, .val (.long q3), .second, .val (.long q4), .second, .val (.int kv), .val (.int nv), .val (.int jv), .val (.ref b1), .val (.long low), .second, .unset, .unset, .unset, .unset, .unset, .unset, .unset, .unset, .unset, .unset, .unset, .unset] [(.int nv), (.int jv)])) t
      refine XS.icmpNo X4.here hx rfl (hb hby at_53) rfl (tlt hc53_5).2.1 ?_
      show Steps p.tables e below (T4.setTop (mkF m 56 #[.val (.int p0), .val (.int p1), .val (.long q2), .second, .val (.long q3), .second, .val (.long q4), .second, .val (.int kv), .val (.int nv), .val (.int jv), .val (.ref b1), .val (.long low), .second, .unset, .unset, .unset, .unset, .unset, .unset, .unset, .unset, .unset, .unset, .unset, .unset] [])) t
      refine XS.iload X4.here hx rfl (hb hby at_56) rfl ?_
      show Steps p.tables e below (T4.setTop (mkF m 58 #[.val (.int p0), .val (.int p1), .val (.long q2), .second, .val (.long q3), .second, .val (.long q4), .second, .val (.int kv), .val (.int nv), .val (.int jv), .val (.ref b1), .val (.long low), .second, .unset, .unset, .unset, .unset, .unset, .unset, .unset, .unset, .unset, .unset, .unset, .unset] [(.int kv)])) t
      refine XS.iload X4.here hx rfl (hb hby at_58) rfl ?_
      show Steps p.tables e below (T4.setTop (mkF m 60 #[.val (.int p0), .val (.int p1), .val (.long q2), .second, .val (.long q3), .second, .val (.long q4), .second, .val (.int kv), .val (.int nv), .val (.int jv), .val (.ref b1), .val (.long low), .second, .unset, .unset, .unset, .unset, .unset, .unset, .unset, .unset, .unset, .unset, .unset, .unset] [(.int jv), (.int kv)])) t
      exact kt
    refine own_callSp X4 hx hZ hown e4 (hw _ (List.mem_of_getElem? (i := 38) rfl)) (hw _ (List.mem_of_getElem? (i := 39) rfl)) (hw _ (List.mem_of_getElem? (i := 23) rfl)) (hw _ (List.mem_of_getElem? (i := 40) rfl)) (by decide) (rm7 l Z aw hw kv jv nt jt T2.heap n0 ZKq2 hzt h0t hnt hjt ((own_ltn hjt hnv').mp hc53_5)) (g := (mkF m 60 #[.val (.int p0), .val (.int p1), .val (.long q2), .second, .val (.long q3), .second, .val (.long q4), .second, .val (.int kv), .val (.int nv), .val (.int jv), .val (.ref b1), .val (.long low), .second, .unset, .unset, .unset, .unset, .unset, .unset, .unset, .unset, .unset, .unset, .unset, .unset] [(.int jv), (.int kv)])) rfl (by rw [hml]; rfl) (argsL := [(.int kv), (.int jv)]) (rest := []) (lenOf pd_3 rfl) rfl rfl (W := 0) (by show 2 * 0 + _ ≤ _; exact Nat.le_of_eq rfl) (hb hby at_60) (by decide) (by decide) (by decide) (by decide) ?_
    intro T6 X6 e6
    refine own_go (T' := T6) (f' := (mkF m 67 #[.val (.int p0), .val (.int p1), .val (.long q2), .second, .val (.long q3), .second, .val (.long q4), .second, .val (.int kv), .val (.int nv), .val (.int jv), .val (.ref b1), .val (.long low), .second, .unset, .unset, .unset, .unset, .unset, .unset, .unset, .unset, .unset, .unset, .unset, .unset] [(.long (own_mkv (Int32.ofNat (own_st nt jt)) ((Int32.ofNat (own_st nt (jt + 1))) - (Int32.ofNat (own_st nt jt)))))])) (fun t kt => ?_) ?_
    · show Steps p.tables e below (T6.setTop (mkF m 63 #[.val (.int p0), .val (.int p1), .val (.long q2), .second, .val (.long q3), .second, .val (.long q4), .second, .val (.int kv), .val (.int nv), .val (.int jv), .val (.ref b1), .val (.long low), .second, .unset, .unset, .unset, .unset, .unset, .unset, .unset, .unset, .unset, .unset, .unset, .unset] [(.long (own_mkv (Int32.ofNat (own_st nt jt)) ((Int32.ofNat (own_st nt (jt + 1))) - (Int32.ofNat (own_st nt jt)))))])) t
      refine XS.goto X6.here hx rfl (pc0 := 63) (pc' := 67) rfl (hb hby at_63) (by decide) (by decide) ?_
      show Steps p.tables e below (T6.setTop (mkF m 67 #[.val (.int p0), .val (.int p1), .val (.long q2), .second, .val (.long q3), .second, .val (.long q4), .second, .val (.int kv), .val (.int nv), .val (.int jv), .val (.ref b1), .val (.long low), .second, .unset, .unset, .unset, .unset, .unset, .unset, .unset, .unset, .unset, .unset, .unset, .unset] [(.long (own_mkv (Int32.ofNat (own_st nt jt)) ((Int32.ofNat (own_st nt (jt + 1))) - (Int32.ofNat (own_st nt jt)))))])) t
      exact kt
    obtain ⟨mj, hmj⟩ : ∃ z, z = (own_mkv (Int32.ofNat (own_st nt jt)) ((Int32.ofNat (own_st nt (jt + 1))) - (Int32.ofNat (own_st nt jt)))) := ⟨_, rfl⟩
    rw [← hmj]
    refine own_go (T' := T6) (f' := (mkF m 88 #[.val (.int p0), .val (.int p1), .val (.long q2), .second, .val (.long q3), .second, .val (.long q4), .second, .val (.int kv), .val (.int nv), .val (.int jv), .val (.ref b1), .val (.long low), .second, .val (.long mj), .second, .unset, .unset, .unset, .unset, .unset, .unset, .unset, .unset, .unset, .unset] [(.long (low ||| ((q3 &&& (low ^^^ (-1 : Int64))) &&& (mj ^^^ (-1 : Int64)))))])) (fun t kt => ?_) ?_
    · show Steps p.tables e below (T6.setTop (mkF m 67 #[.val (.int p0), .val (.int p1), .val (.long q2), .second, .val (.long q3), .second, .val (.long q4), .second, .val (.int kv), .val (.int nv), .val (.int jv), .val (.ref b1), .val (.long low), .second, .unset, .unset, .unset, .unset, .unset, .unset, .unset, .unset, .unset, .unset, .unset, .unset] [(.long mj)])) t
      refine XS.lstore X6.here hx rfl (hb hby at_67) rfl (l' := #[.val (.int p0), .val (.int p1), .val (.long q2), .second, .val (.long q3), .second, .val (.long q4), .second, .val (.int kv), .val (.int nv), .val (.int jv), .val (.ref b1), .val (.long low), .second, .val (.long mj), .second, .unset, .unset, .unset, .unset, .unset, .unset, .unset, .unset, .unset, .unset]) rfl ?_
      show Steps p.tables e below (T6.setTop (mkF m 69 #[.val (.int p0), .val (.int p1), .val (.long q2), .second, .val (.long q3), .second, .val (.long q4), .second, .val (.int kv), .val (.int nv), .val (.int jv), .val (.ref b1), .val (.long low), .second, .val (.long mj), .second, .unset, .unset, .unset, .unset, .unset, .unset, .unset, .unset, .unset, .unset] [])) t
      refine XS.lload X6.here hx rfl (hb hby at_69) rfl ?_
      show Steps p.tables e below (T6.setTop (mkF m 71 #[.val (.int p0), .val (.int p1), .val (.long q2), .second, .val (.long q3), .second, .val (.long q4), .second, .val (.int kv), .val (.int nv), .val (.int jv), .val (.ref b1), .val (.long low), .second, .val (.long mj), .second, .unset, .unset, .unset, .unset, .unset, .unset, .unset, .unset, .unset, .unset] [(.long low)])) t
      refine XS.lload X6.here hx rfl (hb hby at_71) rfl ?_
      show Steps p.tables e below (T6.setTop (mkF m 73 #[.val (.int p0), .val (.int p1), .val (.long q2), .second, .val (.long q3), .second, .val (.long q4), .second, .val (.int kv), .val (.int nv), .val (.int jv), .val (.ref b1), .val (.long low), .second, .val (.long mj), .second, .unset, .unset, .unset, .unset, .unset, .unset, .unset, .unset, .unset, .unset] [(.long q3), (.long low)])) t
      refine XS.lload X6.here hx rfl (hb hby at_73) rfl ?_
      show Steps p.tables e below (T6.setTop (mkF m 75 #[.val (.int p0), .val (.int p1), .val (.long q2), .second, .val (.long q3), .second, .val (.long q4), .second, .val (.int kv), .val (.int nv), .val (.int jv), .val (.ref b1), .val (.long low), .second, .val (.long mj), .second, .unset, .unset, .unset, .unset, .unset, .unset, .unset, .unset, .unset, .unset] [(.long low), (.long q3), (.long low)])) t
      refine X6.ldc2Long hx hown (mvT hZ (hw _ (List.mem_of_getElem? (i := 32) rfl))) (g := (mkF m 75 #[.val (.int p0), .val (.int p1), .val (.long q2), .second, .val (.long q3), .second, .val (.long q4), .second, .val (.int kv), .val (.int nv), .val (.int jv), .val (.ref b1), .val (.long low), .second, .val (.long mj), .second, .unset, .unset, .unset, .unset, .unset, .unset, .unset, .unset, .unset, .unset] [(.long low), (.long q3), (.long low)])) rfl (hb hby at_75) _ ?_
      show Steps p.tables e below (T6.setTop (mkF m 78 #[.val (.int p0), .val (.int p1), .val (.long q2), .second, .val (.long q3), .second, .val (.long q4), .second, .val (.int kv), .val (.int nv), .val (.int jv), .val (.ref b1), .val (.long low), .second, .val (.long mj), .second, .unset, .unset, .unset, .unset, .unset, .unset, .unset, .unset, .unset, .unset] [(.long (-1 : Int64)), (.long low), (.long q3), (.long low)])) t
      refine XS.lxor X6.here hx rfl (hb hby at_78) rfl ?_
      show Steps p.tables e below (T6.setTop (mkF m 79 #[.val (.int p0), .val (.int p1), .val (.long q2), .second, .val (.long q3), .second, .val (.long q4), .second, .val (.int kv), .val (.int nv), .val (.int jv), .val (.ref b1), .val (.long low), .second, .val (.long mj), .second, .unset, .unset, .unset, .unset, .unset, .unset, .unset, .unset, .unset, .unset] [(.long (low ^^^ (-1 : Int64))), (.long q3), (.long low)])) t
      refine XS.land X6.here hx rfl (hb hby at_79) rfl ?_
      show Steps p.tables e below (T6.setTop (mkF m 80 #[.val (.int p0), .val (.int p1), .val (.long q2), .second, .val (.long q3), .second, .val (.long q4), .second, .val (.int kv), .val (.int nv), .val (.int jv), .val (.ref b1), .val (.long low), .second, .val (.long mj), .second, .unset, .unset, .unset, .unset, .unset, .unset, .unset, .unset, .unset, .unset] [(.long (q3 &&& (low ^^^ (-1 : Int64)))), (.long low)])) t
      refine XS.lload X6.here hx rfl (hb hby at_80) rfl ?_
      show Steps p.tables e below (T6.setTop (mkF m 82 #[.val (.int p0), .val (.int p1), .val (.long q2), .second, .val (.long q3), .second, .val (.long q4), .second, .val (.int kv), .val (.int nv), .val (.int jv), .val (.ref b1), .val (.long low), .second, .val (.long mj), .second, .unset, .unset, .unset, .unset, .unset, .unset, .unset, .unset, .unset, .unset] [(.long mj), (.long (q3 &&& (low ^^^ (-1 : Int64)))), (.long low)])) t
      refine X6.ldc2Long hx hown (mvT hZ (hw _ (List.mem_of_getElem? (i := 32) rfl))) (g := (mkF m 82 #[.val (.int p0), .val (.int p1), .val (.long q2), .second, .val (.long q3), .second, .val (.long q4), .second, .val (.int kv), .val (.int nv), .val (.int jv), .val (.ref b1), .val (.long low), .second, .val (.long mj), .second, .unset, .unset, .unset, .unset, .unset, .unset, .unset, .unset, .unset, .unset] [(.long mj), (.long (q3 &&& (low ^^^ (-1 : Int64)))), (.long low)])) rfl (hb hby at_82) _ ?_
      show Steps p.tables e below (T6.setTop (mkF m 85 #[.val (.int p0), .val (.int p1), .val (.long q2), .second, .val (.long q3), .second, .val (.long q4), .second, .val (.int kv), .val (.int nv), .val (.int jv), .val (.ref b1), .val (.long low), .second, .val (.long mj), .second, .unset, .unset, .unset, .unset, .unset, .unset, .unset, .unset, .unset, .unset] [(.long (-1 : Int64)), (.long mj), (.long (q3 &&& (low ^^^ (-1 : Int64)))), (.long low)])) t
      refine XS.lxor X6.here hx rfl (hb hby at_85) rfl ?_
      show Steps p.tables e below (T6.setTop (mkF m 86 #[.val (.int p0), .val (.int p1), .val (.long q2), .second, .val (.long q3), .second, .val (.long q4), .second, .val (.int kv), .val (.int nv), .val (.int jv), .val (.ref b1), .val (.long low), .second, .val (.long mj), .second, .unset, .unset, .unset, .unset, .unset, .unset, .unset, .unset, .unset, .unset] [(.long (mj ^^^ (-1 : Int64))), (.long (q3 &&& (low ^^^ (-1 : Int64)))), (.long low)])) t
      refine XS.land X6.here hx rfl (hb hby at_86) rfl ?_
      show Steps p.tables e below (T6.setTop (mkF m 87 #[.val (.int p0), .val (.int p1), .val (.long q2), .second, .val (.long q3), .second, .val (.long q4), .second, .val (.int kv), .val (.int nv), .val (.int jv), .val (.ref b1), .val (.long low), .second, .val (.long mj), .second, .unset, .unset, .unset, .unset, .unset, .unset, .unset, .unset, .unset, .unset] [(.long ((q3 &&& (low ^^^ (-1 : Int64))) &&& (mj ^^^ (-1 : Int64)))), (.long low)])) t
      refine XS.lor X6.here hx rfl (hb hby at_87) rfl ?_
      show Steps p.tables e below (T6.setTop (mkF m 88 #[.val (.int p0), .val (.int p1), .val (.long q2), .second, .val (.long q3), .second, .val (.long q4), .second, .val (.int kv), .val (.int nv), .val (.int jv), .val (.ref b1), .val (.long low), .second, .val (.long mj), .second, .unset, .unset, .unset, .unset, .unset, .unset, .unset, .unset, .unset, .unset] [(.long (low ||| ((q3 &&& (low ^^^ (-1 : Int64))) &&& (mj ^^^ (-1 : Int64)))))])) t
      exact kt
    obtain ⟨dif, hdif⟩ : ∃ z, z = (low ||| ((q3 &&& (low ^^^ (-1 : Int64))) &&& (mj ^^^ (-1 : Int64)))) := ⟨_, rfl⟩
    rw [← hdif]
    refine own_go (T' := T6) (f' := (mkF m 94 #[.val (.int p0), .val (.int p1), .val (.long q2), .second, .val (.long q3), .second, .val (.long q4), .second, .val (.int kv), .val (.int nv), .val (.int jv), .val (.ref b1), .val (.long low), .second, .val (.long mj), .second, .val (.long dif), .second, .unset, .unset, .unset, .unset, .unset, .unset, .unset, .unset] [(.long (q2 ^^^ dif))])) (fun t kt => ?_) ?_
    · show Steps p.tables e below (T6.setTop (mkF m 88 #[.val (.int p0), .val (.int p1), .val (.long q2), .second, .val (.long q3), .second, .val (.long q4), .second, .val (.int kv), .val (.int nv), .val (.int jv), .val (.ref b1), .val (.long low), .second, .val (.long mj), .second, .unset, .unset, .unset, .unset, .unset, .unset, .unset, .unset, .unset, .unset] [(.long dif)])) t
      refine XS.lstore X6.here hx rfl (hb hby at_88) rfl (l' := #[.val (.int p0), .val (.int p1), .val (.long q2), .second, .val (.long q3), .second, .val (.long q4), .second, .val (.int kv), .val (.int nv), .val (.int jv), .val (.ref b1), .val (.long low), .second, .val (.long mj), .second, .val (.long dif), .second, .unset, .unset, .unset, .unset, .unset, .unset, .unset, .unset]) rfl ?_
      show Steps p.tables e below (T6.setTop (mkF m 90 #[.val (.int p0), .val (.int p1), .val (.long q2), .second, .val (.long q3), .second, .val (.long q4), .second, .val (.int kv), .val (.int nv), .val (.int jv), .val (.ref b1), .val (.long low), .second, .val (.long mj), .second, .val (.long dif), .second, .unset, .unset, .unset, .unset, .unset, .unset, .unset, .unset] [])) t
      refine XS.lloadN X6.here hx rfl (hb hby at_90) rfl ?_
      show Steps p.tables e below (T6.setTop (mkF m 91 #[.val (.int p0), .val (.int p1), .val (.long q2), .second, .val (.long q3), .second, .val (.long q4), .second, .val (.int kv), .val (.int nv), .val (.int jv), .val (.ref b1), .val (.long low), .second, .val (.long mj), .second, .val (.long dif), .second, .unset, .unset, .unset, .unset, .unset, .unset, .unset, .unset] [(.long q2)])) t
      refine XS.lload X6.here hx rfl (hb hby at_91) rfl ?_
      show Steps p.tables e below (T6.setTop (mkF m 93 #[.val (.int p0), .val (.int p1), .val (.long q2), .second, .val (.long q3), .second, .val (.long q4), .second, .val (.int kv), .val (.int nv), .val (.int jv), .val (.ref b1), .val (.long low), .second, .val (.long mj), .second, .val (.long dif), .second, .unset, .unset, .unset, .unset, .unset, .unset, .unset, .unset] [(.long dif), (.long q2)])) t
      refine XS.lxor X6.here hx rfl (hb hby at_93) rfl ?_
      show Steps p.tables e below (T6.setTop (mkF m 94 #[.val (.int p0), .val (.int p1), .val (.long q2), .second, .val (.long q3), .second, .val (.long q4), .second, .val (.int kv), .val (.int nv), .val (.int jv), .val (.ref b1), .val (.long low), .second, .val (.long mj), .second, .val (.long dif), .second, .unset, .unset, .unset, .unset, .unset, .unset, .unset, .unset] [(.long (q2 ^^^ dif))])) t
      exact kt
    obtain ⟨bv, hbv⟩ : ∃ z, z = (q2 ^^^ dif) := ⟨_, rfl⟩
    rw [← hbv]
    refine own_go (T' := T6) (f' := (mkF m 101 #[.val (.int p0), .val (.int p1), .val (.long q2), .second, .val (.long q3), .second, .val (.long q4), .second, .val (.int kv), .val (.int nv), .val (.int jv), .val (.ref b1), .val (.long low), .second, .val (.long mj), .second, .val (.long dif), .second, .val (.long bv), .second, .unset, .unset, .unset, .unset, .unset, .unset] [(.long bv), (.long q2), (.ref b1)])) (fun t kt => ?_) ?_
    · show Steps p.tables e below (T6.setTop (mkF m 94 #[.val (.int p0), .val (.int p1), .val (.long q2), .second, .val (.long q3), .second, .val (.long q4), .second, .val (.int kv), .val (.int nv), .val (.int jv), .val (.ref b1), .val (.long low), .second, .val (.long mj), .second, .val (.long dif), .second, .unset, .unset, .unset, .unset, .unset, .unset, .unset, .unset] [(.long bv)])) t
      refine XS.lstore X6.here hx rfl (hb hby at_94) rfl (l' := #[.val (.int p0), .val (.int p1), .val (.long q2), .second, .val (.long q3), .second, .val (.long q4), .second, .val (.int kv), .val (.int nv), .val (.int jv), .val (.ref b1), .val (.long low), .second, .val (.long mj), .second, .val (.long dif), .second, .val (.long bv), .second, .unset, .unset, .unset, .unset, .unset, .unset]) rfl ?_
      show Steps p.tables e below (T6.setTop (mkF m 96 #[.val (.int p0), .val (.int p1), .val (.long q2), .second, .val (.long q3), .second, .val (.long q4), .second, .val (.int kv), .val (.int nv), .val (.int jv), .val (.ref b1), .val (.long low), .second, .val (.long mj), .second, .val (.long dif), .second, .val (.long bv), .second, .unset, .unset, .unset, .unset, .unset, .unset] [])) t
      refine XS.aload X6.here hx rfl (hb hby at_96) rfl rfl ?_
      show Steps p.tables e below (T6.setTop (mkF m 98 #[.val (.int p0), .val (.int p1), .val (.long q2), .second, .val (.long q3), .second, .val (.long q4), .second, .val (.int kv), .val (.int nv), .val (.int jv), .val (.ref b1), .val (.long low), .second, .val (.long mj), .second, .val (.long dif), .second, .val (.long bv), .second, .unset, .unset, .unset, .unset, .unset, .unset] [(.ref b1)])) t
      refine XS.lloadN X6.here hx rfl (hb hby at_98) rfl ?_
      show Steps p.tables e below (T6.setTop (mkF m 99 #[.val (.int p0), .val (.int p1), .val (.long q2), .second, .val (.long q3), .second, .val (.long q4), .second, .val (.int kv), .val (.int nv), .val (.int jv), .val (.ref b1), .val (.long low), .second, .val (.long mj), .second, .val (.long dif), .second, .val (.long bv), .second, .unset, .unset, .unset, .unset, .unset, .unset] [(.long q2), (.ref b1)])) t
      refine XS.lload X6.here hx rfl (hb hby at_99) rfl ?_
      show Steps p.tables e below (T6.setTop (mkF m 101 #[.val (.int p0), .val (.int p1), .val (.long q2), .second, .val (.long q3), .second, .val (.long q4), .second, .val (.int kv), .val (.int nv), .val (.int jv), .val (.ref b1), .val (.long low), .second, .val (.long mj), .second, .val (.long dif), .second, .val (.long bv), .second, .unset, .unset, .unset, .unset, .unset, .unset] [(.long bv), (.long q2), (.ref b1)])) t
      exact kt
    refine own_callVp X6 hx hZ hown e6 (hw _ (List.mem_of_getElem? (i := 33) rfl)) (hw _ (List.mem_of_getElem? (i := 34) rfl)) (notFace_of_selects (args := #[]) (mvT hZ (hw _ (List.mem_of_getElem? (i := 36) rfl)))) (hw _ (List.mem_of_getElem? (i := 36) rfl)) (hw _ (List.mem_of_getElem? (i := 35) rfl)) (hw _ (List.mem_of_getElem? (i := 3) rfl)) (hw _ (List.mem_of_getElem? (i := 37) rfl)) (by decide) (rm6 l Z aw hw b1 q2 bv r2 nt fm nv T2.heap n0 ZKq2 F_r2 Ar_r2 hnv' hnt) Pq2_0 (g := (mkF m 101 #[.val (.int p0), .val (.int p1), .val (.long q2), .second, .val (.long q3), .second, .val (.long q4), .second, .val (.int kv), .val (.int nv), .val (.int jv), .val (.ref b1), .val (.long low), .second, .val (.long mj), .second, .val (.long dif), .second, .val (.long bv), .second, .unset, .unset, .unset, .unset, .unset, .unset] [(.long bv), (.long q2), (.ref b1)])) rfl (by rw [hml]; rfl) (argsL := [(.long q2), (.long bv)]) (rest := []) (lenOf pd_4 rfl) rfl rfl (W := 0) (by show 2 * 0 + _ ≤ _; exact Nat.le_of_eq rfl) (hb hby at_101) (by decide) (by decide) (by decide) (by decide) ?_
    intro T7 X7 e7
    obtain ⟨r1, hr1⟩ : ∃ z, z = (Int32.ofNat (own_scan fm (q2 ^^^ bv) nt 0)) := ⟨_, rfl⟩
    rw [← hr1]
    refine own_go (T' := T7) (f' := (mkF m 125 #[.val (.int p0), .val (.int p1), .val (.long q2), .second, .val (.long q3), .second, .val (.long q4), .second, .val (.int kv), .val (.int nv), .val (.int jv), .val (.ref b1), .val (.long low), .second, .val (.long mj), .second, .val (.long dif), .second, .val (.long bv), .second, .val (.int r1), .val (.int (1 : Int32)), .unset, .unset, .unset, .unset] [(.long q4), (.long q2), (.ref b1)])) (fun t kt => ?_) ?_
    · show Steps p.tables e below (T7.setTop (mkF m 104 #[.val (.int p0), .val (.int p1), .val (.long q2), .second, .val (.long q3), .second, .val (.long q4), .second, .val (.int kv), .val (.int nv), .val (.int jv), .val (.ref b1), .val (.long low), .second, .val (.long mj), .second, .val (.long dif), .second, .val (.long bv), .second, .unset, .unset, .unset, .unset, .unset, .unset] [(.int r1)])) t
      refine XS.istore X7.here hx rfl (hb hby at_104) rfl (l' := #[.val (.int p0), .val (.int p1), .val (.long q2), .second, .val (.long q3), .second, .val (.long q4), .second, .val (.int kv), .val (.int nv), .val (.int jv), .val (.ref b1), .val (.long low), .second, .val (.long mj), .second, .val (.long dif), .second, .val (.long bv), .second, .val (.int r1), .unset, .unset, .unset, .unset, .unset]) rfl ?_
      show Steps p.tables e below (T7.setTop (mkF m 106 #[.val (.int p0), .val (.int p1), .val (.long q2), .second, .val (.long q3), .second, .val (.long q4), .second, .val (.int kv), .val (.int nv), .val (.int jv), .val (.ref b1), .val (.long low), .second, .val (.long mj), .second, .val (.long dif), .second, .val (.long bv), .second, .val (.int r1), .unset, .unset, .unset, .unset, .unset] [])) t
      refine XS.iload X7.here hx rfl (hb hby at_106) rfl ?_
      show Steps p.tables e below (T7.setTop (mkF m 108 #[.val (.int p0), .val (.int p1), .val (.long q2), .second, .val (.long q3), .second, .val (.long q4), .second, .val (.int kv), .val (.int nv), .val (.int jv), .val (.ref b1), .val (.long low), .second, .val (.long mj), .second, .val (.long dif), .second, .val (.long bv), .second, .val (.int r1), .unset, .unset, .unset, .unset, .unset] [(.int r1)])) t
      refine XS.iload X7.here hx rfl (hb hby at_108) rfl ?_
      show Steps p.tables e below (T7.setTop (mkF m 110 #[.val (.int p0), .val (.int p1), .val (.long q2), .second, .val (.long q3), .second, .val (.long q4), .second, .val (.int kv), .val (.int nv), .val (.int jv), .val (.ref b1), .val (.long low), .second, .val (.long mj), .second, .val (.long dif), .second, .val (.long bv), .second, .val (.int r1), .unset, .unset, .unset, .unset, .unset] [(.int jv), (.int r1)])) t
      refine XS.icmpNo X7.here hx rfl (hb hby at_110) rfl (teq (show r1 = jv from own_r1 hr1 hbv hdif h0t hnt hjn hjt hfm (by rw [hlow]; exact own_lwM (own_ofN (by have := own_st64 h0t hjn; omega)) (own_st64 h0t hjn)) (fun h => by rw [hmj]; exact own_mkM h0t hnt h))).2 ?_
      show Steps p.tables e below (T7.setTop (mkF m 113 #[.val (.int p0), .val (.int p1), .val (.long q2), .second, .val (.long q3), .second, .val (.long q4), .second, .val (.int kv), .val (.int nv), .val (.int jv), .val (.ref b1), .val (.long low), .second, .val (.long mj), .second, .val (.long dif), .second, .val (.long bv), .second, .val (.int r1), .unset, .unset, .unset, .unset, .unset] [])) t
      refine XS.iconst X7.here hx rfl (hb hby at_113) ?_
      show Steps p.tables e below (T7.setTop (mkF m 114 #[.val (.int p0), .val (.int p1), .val (.long q2), .second, .val (.long q3), .second, .val (.long q4), .second, .val (.int kv), .val (.int nv), .val (.int jv), .val (.ref b1), .val (.long low), .second, .val (.long mj), .second, .val (.long dif), .second, .val (.long bv), .second, .val (.int r1), .unset, .unset, .unset, .unset, .unset] [(.int (1 : Int32))])) t
      refine XS.goto X7.here hx rfl (pc0 := 114) (pc' := 118) rfl (hb hby at_114) (by decide) (by decide) ?_
      show Steps p.tables e below (T7.setTop (mkF m 118 #[.val (.int p0), .val (.int p1), .val (.long q2), .second, .val (.long q3), .second, .val (.long q4), .second, .val (.int kv), .val (.int nv), .val (.int jv), .val (.ref b1), .val (.long low), .second, .val (.long mj), .second, .val (.long dif), .second, .val (.long bv), .second, .val (.int r1), .unset, .unset, .unset, .unset, .unset] [(.int (1 : Int32))])) t
      refine XS.istore X7.here hx rfl (hb hby at_118) rfl (l' := #[.val (.int p0), .val (.int p1), .val (.long q2), .second, .val (.long q3), .second, .val (.long q4), .second, .val (.int kv), .val (.int nv), .val (.int jv), .val (.ref b1), .val (.long low), .second, .val (.long mj), .second, .val (.long dif), .second, .val (.long bv), .second, .val (.int r1), .val (.int (1 : Int32)), .unset, .unset, .unset, .unset]) rfl ?_
      show Steps p.tables e below (T7.setTop (mkF m 120 #[.val (.int p0), .val (.int p1), .val (.long q2), .second, .val (.long q3), .second, .val (.long q4), .second, .val (.int kv), .val (.int nv), .val (.int jv), .val (.ref b1), .val (.long low), .second, .val (.long mj), .second, .val (.long dif), .second, .val (.long bv), .second, .val (.int r1), .val (.int (1 : Int32)), .unset, .unset, .unset, .unset] [])) t
      refine XS.aload X7.here hx rfl (hb hby at_120) rfl rfl ?_
      show Steps p.tables e below (T7.setTop (mkF m 122 #[.val (.int p0), .val (.int p1), .val (.long q2), .second, .val (.long q3), .second, .val (.long q4), .second, .val (.int kv), .val (.int nv), .val (.int jv), .val (.ref b1), .val (.long low), .second, .val (.long mj), .second, .val (.long dif), .second, .val (.long bv), .second, .val (.int r1), .val (.int (1 : Int32)), .unset, .unset, .unset, .unset] [(.ref b1)])) t
      refine XS.lloadN X7.here hx rfl (hb hby at_122) rfl ?_
      show Steps p.tables e below (T7.setTop (mkF m 123 #[.val (.int p0), .val (.int p1), .val (.long q2), .second, .val (.long q3), .second, .val (.long q4), .second, .val (.int kv), .val (.int nv), .val (.int jv), .val (.ref b1), .val (.long low), .second, .val (.long mj), .second, .val (.long dif), .second, .val (.long bv), .second, .val (.int r1), .val (.int (1 : Int32)), .unset, .unset, .unset, .unset] [(.long q2), (.ref b1)])) t
      refine XS.lload X7.here hx rfl (hb hby at_123) rfl ?_
      show Steps p.tables e below (T7.setTop (mkF m 125 #[.val (.int p0), .val (.int p1), .val (.long q2), .second, .val (.long q3), .second, .val (.long q4), .second, .val (.int kv), .val (.int nv), .val (.int jv), .val (.ref b1), .val (.long low), .second, .val (.long mj), .second, .val (.long dif), .second, .val (.long bv), .second, .val (.int r1), .val (.int (1 : Int32)), .unset, .unset, .unset, .unset] [(.long q4), (.long q2), (.ref b1)])) t
      exact kt
    refine own_callVp X7 hx hZ hown e7 (hw _ (List.mem_of_getElem? (i := 33) rfl)) (hw _ (List.mem_of_getElem? (i := 34) rfl)) (notFace_of_selects (args := #[]) (mvT hZ (hw _ (List.mem_of_getElem? (i := 36) rfl)))) (hw _ (List.mem_of_getElem? (i := 36) rfl)) (hw _ (List.mem_of_getElem? (i := 35) rfl)) (hw _ (List.mem_of_getElem? (i := 3) rfl)) (hw _ (List.mem_of_getElem? (i := 37) rfl)) (by decide) (rm6 l Z aw hw b1 q2 q4 r2 nt fm nv T2.heap n0 ZKq2 F_r2 Ar_r2 hnv' hnt) Pq2_0 (g := (mkF m 125 #[.val (.int p0), .val (.int p1), .val (.long q2), .second, .val (.long q3), .second, .val (.long q4), .second, .val (.int kv), .val (.int nv), .val (.int jv), .val (.ref b1), .val (.long low), .second, .val (.long mj), .second, .val (.long dif), .second, .val (.long bv), .second, .val (.int r1), .val (.int (1 : Int32)), .unset, .unset, .unset, .unset] [(.long q4), (.long q2), (.ref b1)])) rfl (by rw [hml]; rfl) (argsL := [(.long q2), (.long q4)]) (rest := []) (lenOf pd_4 rfl) rfl rfl (W := 0) (by show 2 * 0 + _ ≤ _; exact Nat.le_of_eq rfl) (hb hby at_125) (by decide) (by decide) (by decide) (by decide) ?_
    intro T8 X8 e8
    obtain ⟨r2, hr2⟩ : ∃ z, z = (Int32.ofNat (own_scan fm (q2 ^^^ q4) nt 0)) := ⟨_, rfl⟩
    rw [← hr2]
    refine own_go (T' := T8) (f' := (mkF m 130 #[.val (.int p0), .val (.int p1), .val (.long q2), .second, .val (.long q3), .second, .val (.long q4), .second, .val (.int kv), .val (.int nv), .val (.int jv), .val (.ref b1), .val (.long low), .second, .val (.long mj), .second, .val (.long dif), .second, .val (.long bv), .second, .val (.int r1), .val (.int (1 : Int32)), .val (.int r2), .unset, .unset, .unset] [])) (fun t kt => ?_) ?_
    · show Steps p.tables e below (T8.setTop (mkF m 128 #[.val (.int p0), .val (.int p1), .val (.long q2), .second, .val (.long q3), .second, .val (.long q4), .second, .val (.int kv), .val (.int nv), .val (.int jv), .val (.ref b1), .val (.long low), .second, .val (.long mj), .second, .val (.long dif), .second, .val (.long bv), .second, .val (.int r1), .val (.int (1 : Int32)), .unset, .unset, .unset, .unset] [(.int r2)])) t
      refine XS.istore X8.here hx rfl (hb hby at_128) rfl (l' := #[.val (.int p0), .val (.int p1), .val (.long q2), .second, .val (.long q3), .second, .val (.long q4), .second, .val (.int kv), .val (.int nv), .val (.int jv), .val (.ref b1), .val (.long low), .second, .val (.long mj), .second, .val (.long dif), .second, .val (.long bv), .second, .val (.int r1), .val (.int (1 : Int32)), .val (.int r2), .unset, .unset, .unset]) rfl ?_
      show Steps p.tables e below (T8.setTop (mkF m 130 #[.val (.int p0), .val (.int p1), .val (.long q2), .second, .val (.long q3), .second, .val (.long q4), .second, .val (.int kv), .val (.int nv), .val (.int jv), .val (.ref b1), .val (.long low), .second, .val (.long mj), .second, .val (.long dif), .second, .val (.long bv), .second, .val (.int r1), .val (.int (1 : Int32)), .val (.int r2), .unset, .unset, .unset] [])) t
      exact kt
    obtain ⟨rt, hrt0⟩ : ∃ k : Nat, k = own_scan fm (q2 ^^^ q4) nt 0 := ⟨_, rfl⟩
    have hrs := own_scan_spec fm (q2 ^^^ q4) nt 0
    rw [← hrt0, Nat.zero_add] at hrs
    have hrt : r2.toInt = (rt : Int) := by rw [hr2, ← hrt0]; exact own_ofN (by omega)
    refine own_go (T' := T8) (f' := (mkF m 134 #[.val (.int p0), .val (.int p1), .val (.long q2), .second, .val (.long q3), .second, .val (.long q4), .second, .val (.int kv), .val (.int nv), .val (.int jv), .val (.ref b1), .val (.long low), .second, .val (.long mj), .second, .val (.long dif), .second, .val (.long bv), .second, .val (.int r1), .val (.int (1 : Int32)), .val (.int r2), .unset, .unset, .unset] [(.long (q2 ^^^ q4))])) (fun t kt => ?_) ?_
    · show Steps p.tables e below (T8.setTop (mkF m 130 #[.val (.int p0), .val (.int p1), .val (.long q2), .second, .val (.long q3), .second, .val (.long q4), .second, .val (.int kv), .val (.int nv), .val (.int jv), .val (.ref b1), .val (.long low), .second, .val (.long mj), .second, .val (.long dif), .second, .val (.long bv), .second, .val (.int r1), .val (.int (1 : Int32)), .val (.int r2), .unset, .unset, .unset] [])) t
      refine XS.lloadN X8.here hx rfl (hb hby at_130) rfl ?_
      show Steps p.tables e below (T8.setTop (mkF m 131 #[.val (.int p0), .val (.int p1), .val (.long q2), .second, .val (.long q3), .second, .val (.long q4), .second, .val (.int kv), .val (.int nv), .val (.int jv), .val (.ref b1), .val (.long low), .second, .val (.long mj), .second, .val (.long dif), .second, .val (.long bv), .second, .val (.int r1), .val (.int (1 : Int32)), .val (.int r2), .unset, .unset, .unset] [(.long q2)])) t
      refine XS.lload X8.here hx rfl (hb hby at_131) rfl ?_
      show Steps p.tables e below (T8.setTop (mkF m 133 #[.val (.int p0), .val (.int p1), .val (.long q2), .second, .val (.long q3), .second, .val (.long q4), .second, .val (.int kv), .val (.int nv), .val (.int jv), .val (.ref b1), .val (.long low), .second, .val (.long mj), .second, .val (.long dif), .second, .val (.long bv), .second, .val (.int r1), .val (.int (1 : Int32)), .val (.int r2), .unset, .unset, .unset] [(.long q4), (.long q2)])) t
      refine XS.lxor X8.here hx rfl (hb hby at_133) rfl ?_
      show Steps p.tables e below (T8.setTop (mkF m 134 #[.val (.int p0), .val (.int p1), .val (.long q2), .second, .val (.long q3), .second, .val (.long q4), .second, .val (.int kv), .val (.int nv), .val (.int jv), .val (.ref b1), .val (.long low), .second, .val (.long mj), .second, .val (.long dif), .second, .val (.long bv), .second, .val (.int r1), .val (.int (1 : Int32)), .val (.int r2), .unset, .unset, .unset] [(.long (q2 ^^^ q4))])) t
      exact kt
    obtain ⟨d2, hd2⟩ : ∃ z, z = (q2 ^^^ q4) := ⟨_, rfl⟩
    rw [← hd2]
    refine own_go (T' := T8) (f' := (mkF m 164 #[.val (.int p0), .val (.int p1), .val (.long q2), .second, .val (.long q3), .second, .val (.long q4), .second, .val (.int kv), .val (.int nv), .val (.int jv), .val (.ref b1), .val (.long low), .second, .val (.long mj), .second, .val (.long dif), .second, .val (.long bv), .second, .val (.int r1), .val (.int (1 : Int32)), .val (.int r2), .val (.long d2), .second, .val (.int (1 : Int32))] [(.int nv), (.int r2)])) (fun t kt => ?_) ?_
    · show Steps p.tables e below (T8.setTop (mkF m 134 #[.val (.int p0), .val (.int p1), .val (.long q2), .second, .val (.long q3), .second, .val (.long q4), .second, .val (.int kv), .val (.int nv), .val (.int jv), .val (.ref b1), .val (.long low), .second, .val (.long mj), .second, .val (.long dif), .second, .val (.long bv), .second, .val (.int r1), .val (.int (1 : Int32)), .val (.int r2), .unset, .unset, .unset] [(.long d2)])) t
      refine XS.lstore X8.here hx rfl (hb hby at_134) rfl (l' := #[.val (.int p0), .val (.int p1), .val (.long q2), .second, .val (.long q3), .second, .val (.long q4), .second, .val (.int kv), .val (.int nv), .val (.int jv), .val (.ref b1), .val (.long low), .second, .val (.long mj), .second, .val (.long dif), .second, .val (.long bv), .second, .val (.int r1), .val (.int (1 : Int32)), .val (.int r2), .val (.long d2), .second, .unset]) rfl ?_
      show Steps p.tables e below (T8.setTop (mkF m 136 #[.val (.int p0), .val (.int p1), .val (.long q2), .second, .val (.long q3), .second, .val (.long q4), .second, .val (.int kv), .val (.int nv), .val (.int jv), .val (.ref b1), .val (.long low), .second, .val (.long mj), .second, .val (.long dif), .second, .val (.long bv), .second, .val (.int r1), .val (.int (1 : Int32)), .val (.int r2), .val (.long d2), .second, .unset] [])) t
      refine XS.iload X8.here hx rfl (hb hby at_136) rfl ?_
      show Steps p.tables e below (T8.setTop (mkF m 138 #[.val (.int p0), .val (.int p1), .val (.long q2), .second, .val (.long q3), .second, .val (.long q4), .second, .val (.int kv), .val (.int nv), .val (.int jv), .val (.ref b1), .val (.long low), .second, .val (.long mj), .second, .val (.long dif), .second, .val (.long bv), .second, .val (.int r1), .val (.int (1 : Int32)), .val (.int r2), .val (.long d2), .second, .unset] [(.int r2)])) t
      refine XS.ifNo X8.here hx rfl (hb hby at_138) rfl ((if0 _ _).trans (flt (show ¬ (r2 < (0 : Int32)) from by rw [Int32.lt_iff_toInt_lt, hrt, show (0 : Int32).toInt = 0 from rfl]; omega)).1) ?_
      show Steps p.tables e below (T8.setTop (mkF m 141 #[.val (.int p0), .val (.int p1), .val (.long q2), .second, .val (.long q3), .second, .val (.long q4), .second, .val (.int kv), .val (.int nv), .val (.int jv), .val (.ref b1), .val (.long low), .second, .val (.long mj), .second, .val (.long dif), .second, .val (.long bv), .second, .val (.int r1), .val (.int (1 : Int32)), .val (.int r2), .val (.long d2), .second, .unset] [])) t
      refine XS.iload X8.here hx rfl (hb hby at_141) rfl ?_
      show Steps p.tables e below (T8.setTop (mkF m 143 #[.val (.int p0), .val (.int p1), .val (.long q2), .second, .val (.long q3), .second, .val (.long q4), .second, .val (.int kv), .val (.int nv), .val (.int jv), .val (.ref b1), .val (.long low), .second, .val (.long mj), .second, .val (.long dif), .second, .val (.long bv), .second, .val (.int r1), .val (.int (1 : Int32)), .val (.int r2), .val (.long d2), .second, .unset] [(.int r2)])) t
      refine XS.iload X8.here hx rfl (hb hby at_143) rfl ?_
      show Steps p.tables e below (T8.setTop (mkF m 145 #[.val (.int p0), .val (.int p1), .val (.long q2), .second, .val (.long q3), .second, .val (.long q4), .second, .val (.int kv), .val (.int nv), .val (.int jv), .val (.ref b1), .val (.long low), .second, .val (.long mj), .second, .val (.long dif), .second, .val (.long bv), .second, .val (.int r1), .val (.int (1 : Int32)), .val (.int r2), .val (.long d2), .second, .unset] [(.int nv), (.int r2)])) t
      refine XS.icmpNo X8.here hx rfl (hb hby at_145) rfl (flt (show ¬ (nv < r2) from by rw [Int32.lt_iff_toInt_lt, hrt, hnv']; omega)).2.2.1 ?_
      show Steps p.tables e below (T8.setTop (mkF m 148 #[.val (.int p0), .val (.int p1), .val (.long q2), .second, .val (.long q3), .second, .val (.long q4), .second, .val (.int kv), .val (.int nv), .val (.int jv), .val (.ref b1), .val (.long low), .second, .val (.long mj), .second, .val (.long dif), .second, .val (.long bv), .second, .val (.int r1), .val (.int (1 : Int32)), .val (.int r2), .val (.long d2), .second, .unset] [])) t
      refine XS.iconst X8.here hx rfl (hb hby at_148) ?_
      show Steps p.tables e below (T8.setTop (mkF m 149 #[.val (.int p0), .val (.int p1), .val (.long q2), .second, .val (.long q3), .second, .val (.long q4), .second, .val (.int kv), .val (.int nv), .val (.int jv), .val (.ref b1), .val (.long low), .second, .val (.long mj), .second, .val (.long dif), .second, .val (.long bv), .second, .val (.int r1), .val (.int (1 : Int32)), .val (.int r2), .val (.long d2), .second, .unset] [(.int (1 : Int32))])) t
      refine XS.goto X8.here hx rfl (pc0 := 149) (pc' := 153) rfl (hb hby at_149) (by decide) (by decide) ?_
      show Steps p.tables e below (T8.setTop (mkF m 153 #[.val (.int p0), .val (.int p1), .val (.long q2), .second, .val (.long q3), .second, .val (.long q4), .second, .val (.int kv), .val (.int nv), .val (.int jv), .val (.ref b1), .val (.long low), .second, .val (.long mj), .second, .val (.long dif), .second, .val (.long bv), .second, .val (.int r1), .val (.int (1 : Int32)), .val (.int r2), .val (.long d2), .second, .unset] [(.int (1 : Int32))])) t
      refine XS.istore X8.here hx rfl (hb hby at_153) rfl (l' := #[.val (.int p0), .val (.int p1), .val (.long q2), .second, .val (.long q3), .second, .val (.long q4), .second, .val (.int kv), .val (.int nv), .val (.int jv), .val (.ref b1), .val (.long low), .second, .val (.long mj), .second, .val (.long dif), .second, .val (.long bv), .second, .val (.int r1), .val (.int (1 : Int32)), .val (.int r2), .val (.long d2), .second, .val (.int (1 : Int32))]) rfl ?_
      show Steps p.tables e below (T8.setTop (mkF m 155 #[.val (.int p0), .val (.int p1), .val (.long q2), .second, .val (.long q3), .second, .val (.long q4), .second, .val (.int kv), .val (.int nv), .val (.int jv), .val (.ref b1), .val (.long low), .second, .val (.long mj), .second, .val (.long dif), .second, .val (.long bv), .second, .val (.int r1), .val (.int (1 : Int32)), .val (.int r2), .val (.long d2), .second, .val (.int (1 : Int32))] [])) t
      refine XS.iload X8.here hx rfl (hb hby at_155) rfl ?_
      show Steps p.tables e below (T8.setTop (mkF m 157 #[.val (.int p0), .val (.int p1), .val (.long q2), .second, .val (.long q3), .second, .val (.long q4), .second, .val (.int kv), .val (.int nv), .val (.int jv), .val (.ref b1), .val (.long low), .second, .val (.long mj), .second, .val (.long dif), .second, .val (.long bv), .second, .val (.int r1), .val (.int (1 : Int32)), .val (.int r2), .val (.long d2), .second, .val (.int (1 : Int32))] [(.int (1 : Int32))])) t
      refine XS.ifNo X8.here hx rfl (hb hby at_157) rfl (by decide) ?_
      show Steps p.tables e below (T8.setTop (mkF m 160 #[.val (.int p0), .val (.int p1), .val (.long q2), .second, .val (.long q3), .second, .val (.long q4), .second, .val (.int kv), .val (.int nv), .val (.int jv), .val (.ref b1), .val (.long low), .second, .val (.long mj), .second, .val (.long dif), .second, .val (.long bv), .second, .val (.int r1), .val (.int (1 : Int32)), .val (.int r2), .val (.long d2), .second, .val (.int (1 : Int32))] [])) t
      refine XS.iload X8.here hx rfl (hb hby at_160) rfl ?_
      show Steps p.tables e below (T8.setTop (mkF m 162 #[.val (.int p0), .val (.int p1), .val (.long q2), .second, .val (.long q3), .second, .val (.long q4), .second, .val (.int kv), .val (.int nv), .val (.int jv), .val (.ref b1), .val (.long low), .second, .val (.long mj), .second, .val (.long dif), .second, .val (.long bv), .second, .val (.int r1), .val (.int (1 : Int32)), .val (.int r2), .val (.long d2), .second, .val (.int (1 : Int32))] [(.int r2)])) t
      refine XS.iload X8.here hx rfl (hb hby at_162) rfl ?_
      show Steps p.tables e below (T8.setTop (mkF m 164 #[.val (.int p0), .val (.int p1), .val (.long q2), .second, .val (.long q3), .second, .val (.long q4), .second, .val (.int kv), .val (.int nv), .val (.int jv), .val (.ref b1), .val (.long low), .second, .val (.long mj), .second, .val (.long dif), .second, .val (.long bv), .second, .val (.int r1), .val (.int (1 : Int32)), .val (.int r2), .val (.long d2), .second, .val (.int (1 : Int32))] [(.int nv), (.int r2)])) t
      exact kt
    by_cases hc164_9 : r2 < nv
    · refine own_go (T' := T8) (f' := (mkF m 173 #[.val (.int p0), .val (.int p1), .val (.long q2), .second, .val (.long q3), .second, .val (.long q4), .second, .val (.int kv), .val (.int nv), .val (.int jv), .val (.ref b1), .val (.long low), .second, .val (.long mj), .second, .val (.long dif), .second, .val (.long bv), .second, .val (.int r1), .val (.int (1 : Int32)), .val (.int r2), .val (.long d2), .second, .val (.int (1 : Int32))] [(.int r2), (.int kv), (.long d2)])) (fun t kt => ?_) ?_
      · show Steps p.tables e below (T8.setTop (mkF m 164 #[.val (.int p0), .val (.int p1), .val (.long q2), .second, .val (.long q3), .second, .val (.long q4), .second, .val (.int kv), .val (.int nv), .val (.int jv), .val (.ref b1), .val (.long low), .second, .val (.long mj), .second, .val (.long dif), .second, .val (.long bv), .second, .val (.int r1), .val (.int (1 : Int32)), .val (.int r2), .val (.long d2), .second, .val (.int (1 : Int32))] [(.int nv), (.int r2)])) t
        refine XS.icmpNo X8.here hx rfl (hb hby at_164) rfl (tlt hc164_9).2.1 ?_
        show Steps p.tables e below (T8.setTop (mkF m 167 #[.val (.int p0), .val (.int p1), .val (.long q2), .second, .val (.long q3), .second, .val (.long q4), .second, .val (.int kv), .val (.int nv), .val (.int jv), .val (.ref b1), .val (.long low), .second, .val (.long mj), .second, .val (.long dif), .second, .val (.long bv), .second, .val (.int r1), .val (.int (1 : Int32)), .val (.int r2), .val (.long d2), .second, .val (.int (1 : Int32))] [])) t
        refine XS.lload X8.here hx rfl (hb hby at_167) rfl ?_
        show Steps p.tables e below (T8.setTop (mkF m 169 #[.val (.int p0), .val (.int p1), .val (.long q2), .second, .val (.long q3), .second, .val (.long q4), .second, .val (.int kv), .val (.int nv), .val (.int jv), .val (.ref b1), .val (.long low), .second, .val (.long mj), .second, .val (.long dif), .second, .val (.long bv), .second, .val (.int r1), .val (.int (1 : Int32)), .val (.int r2), .val (.long d2), .second, .val (.int (1 : Int32))] [(.long d2)])) t
        refine XS.iload X8.here hx rfl (hb hby at_169) rfl ?_
        show Steps p.tables e below (T8.setTop (mkF m 171 #[.val (.int p0), .val (.int p1), .val (.long q2), .second, .val (.long q3), .second, .val (.long q4), .second, .val (.int kv), .val (.int nv), .val (.int jv), .val (.ref b1), .val (.long low), .second, .val (.long mj), .second, .val (.long dif), .second, .val (.long bv), .second, .val (.int r1), .val (.int (1 : Int32)), .val (.int r2), .val (.long d2), .second, .val (.int (1 : Int32))] [(.int kv), (.long d2)])) t
        refine XS.iload X8.here hx rfl (hb hby at_171) rfl ?_
        show Steps p.tables e below (T8.setTop (mkF m 173 #[.val (.int p0), .val (.int p1), .val (.long q2), .second, .val (.long q3), .second, .val (.long q4), .second, .val (.int kv), .val (.int nv), .val (.int jv), .val (.ref b1), .val (.long low), .second, .val (.long mj), .second, .val (.long dif), .second, .val (.long bv), .second, .val (.int r1), .val (.int (1 : Int32)), .val (.int r2), .val (.long d2), .second, .val (.int (1 : Int32))] [(.int r2), (.int kv), (.long d2)])) t
        exact kt
      refine own_callSp X8 hx hZ hown e8 (hw _ (List.mem_of_getElem? (i := 38) rfl)) (hw _ (List.mem_of_getElem? (i := 39) rfl)) (hw _ (List.mem_of_getElem? (i := 23) rfl)) (hw _ (List.mem_of_getElem? (i := 40) rfl)) (by decide) (rm7 l Z aw hw kv r2 nt rt T2.heap n0 ZKq2 hzt h0t hnt hrt ((own_ltn hrt hnv').mp hc164_9)) (g := (mkF m 173 #[.val (.int p0), .val (.int p1), .val (.long q2), .second, .val (.long q3), .second, .val (.long q4), .second, .val (.int kv), .val (.int nv), .val (.int jv), .val (.ref b1), .val (.long low), .second, .val (.long mj), .second, .val (.long dif), .second, .val (.long bv), .second, .val (.int r1), .val (.int (1 : Int32)), .val (.int r2), .val (.long d2), .second, .val (.int (1 : Int32))] [(.int r2), (.int kv), (.long d2)])) rfl (by rw [hml]; rfl) (argsL := [(.int kv), (.int r2)]) (rest := [(.long d2)]) (lenOf pd_3 rfl) rfl rfl (W := 2) (by show 2 * 0 + _ ≤ _; exact Nat.le_of_eq rfl) (hb hby at_173) (by decide) (by decide) (by decide) (by decide) ?_
      intro T10 X10 e10
      refine own_go (T' := T10) (f' := (mkF m 196 #[.val (.int p0), .val (.int p1), .val (.long q2), .second, .val (.long q3), .second, .val (.long q4), .second, .val (.int kv), .val (.int nv), .val (.int jv), .val (.ref b1), .val (.long low), .second, .val (.long mj), .second, .val (.long dif), .second, .val (.long bv), .second, .val (.int r1), .val (.int (1 : Int32)), .val (.int r2), .val (.long d2), .second, .val (.int (1 : Int32))] [(.int r2)])) (fun t kt => ?_) ?_
      · show Steps p.tables e below (T10.setTop (mkF m 176 #[.val (.int p0), .val (.int p1), .val (.long q2), .second, .val (.long q3), .second, .val (.long q4), .second, .val (.int kv), .val (.int nv), .val (.int jv), .val (.ref b1), .val (.long low), .second, .val (.long mj), .second, .val (.long dif), .second, .val (.long bv), .second, .val (.int r1), .val (.int (1 : Int32)), .val (.int r2), .val (.long d2), .second, .val (.int (1 : Int32))] [(.long (own_mkv (Int32.ofNat (own_st nt rt)) ((Int32.ofNat (own_st nt (rt + 1))) - (Int32.ofNat (own_st nt rt))))), (.long d2)])) t
        refine XS.land X10.here hx rfl (hb hby at_176) rfl ?_
        show Steps p.tables e below (T10.setTop (mkF m 177 #[.val (.int p0), .val (.int p1), .val (.long q2), .second, .val (.long q3), .second, .val (.long q4), .second, .val (.int kv), .val (.int nv), .val (.int jv), .val (.ref b1), .val (.long low), .second, .val (.long mj), .second, .val (.long dif), .second, .val (.long bv), .second, .val (.int r1), .val (.int (1 : Int32)), .val (.int r2), .val (.long d2), .second, .val (.int (1 : Int32))] [(.long (d2 &&& (own_mkv (Int32.ofNat (own_st nt rt)) ((Int32.ofNat (own_st nt (rt + 1))) - (Int32.ofNat (own_st nt rt))))))])) t
        refine XS.lconst X10.here hx rfl (hb hby at_177) ?_
        show Steps p.tables e below (T10.setTop (mkF m 178 #[.val (.int p0), .val (.int p1), .val (.long q2), .second, .val (.long q3), .second, .val (.long q4), .second, .val (.int kv), .val (.int nv), .val (.int jv), .val (.ref b1), .val (.long low), .second, .val (.long mj), .second, .val (.long dif), .second, .val (.long bv), .second, .val (.int r1), .val (.int (1 : Int32)), .val (.int r2), .val (.long d2), .second, .val (.int (1 : Int32))] [(.long (0 : Int64)), (.long (d2 &&& (own_mkv (Int32.ofNat (own_st nt rt)) ((Int32.ofNat (own_st nt (rt + 1))) - (Int32.ofNat (own_st nt rt))))))])) t
        refine XS.lcmp X10.here hx rfl (hb hby at_178) rfl ?_
        show Steps p.tables e below (T10.setTop (mkF m 179 #[.val (.int p0), .val (.int p1), .val (.long q2), .second, .val (.long q3), .second, .val (.long q4), .second, .val (.int kv), .val (.int nv), .val (.int jv), .val (.ref b1), .val (.long low), .second, .val (.long mj), .second, .val (.long dif), .second, .val (.long bv), .second, .val (.int r1), .val (.int (1 : Int32)), .val (.int r2), .val (.long d2), .second, .val (.int (1 : Int32))] [(.int (lcmpW (d2 &&& (own_mkv (Int32.ofNat (own_st nt rt)) ((Int32.ofNat (own_st nt (rt + 1))) - (Int32.ofNat (own_st nt rt))))) (0 : Int64)))])) t
        refine XS.ifNo X10.here hx rfl (hb hby at_179) rfl (own_lN_ne (show (d2 &&& (own_mkv (Int32.ofNat (own_st nt rt)) ((Int32.ofNat (own_st nt (rt + 1))) - (Int32.ofNat (own_st nt rt))))) = (0 : Int64) from by have q := (own_ltn hrt hnv').mp hc164_9; rw [← own_isM_eq (hfm rt q) (own_mkM h0t hnt q), hd2]; exact hrs.2.2.2 q)) ?_
        show Steps p.tables e below (T10.setTop (mkF m 182 #[.val (.int p0), .val (.int p1), .val (.long q2), .second, .val (.long q3), .second, .val (.long q4), .second, .val (.int kv), .val (.int nv), .val (.int jv), .val (.ref b1), .val (.long low), .second, .val (.long mj), .second, .val (.long dif), .second, .val (.long bv), .second, .val (.int r1), .val (.int (1 : Int32)), .val (.int r2), .val (.long d2), .second, .val (.int (1 : Int32))] [])) t
        refine XS.iconst X10.here hx rfl (hb hby at_182) ?_
        show Steps p.tables e below (T10.setTop (mkF m 183 #[.val (.int p0), .val (.int p1), .val (.long q2), .second, .val (.long q3), .second, .val (.long q4), .second, .val (.int kv), .val (.int nv), .val (.int jv), .val (.ref b1), .val (.long low), .second, .val (.long mj), .second, .val (.long dif), .second, .val (.long bv), .second, .val (.int r1), .val (.int (1 : Int32)), .val (.int r2), .val (.long d2), .second, .val (.int (1 : Int32))] [(.int (1 : Int32))])) t
        refine XS.goto X10.here hx rfl (pc0 := 183) (pc' := 187) rfl (hb hby at_183) (by decide) (by decide) ?_
        show Steps p.tables e below (T10.setTop (mkF m 187 #[.val (.int p0), .val (.int p1), .val (.long q2), .second, .val (.long q3), .second, .val (.long q4), .second, .val (.int kv), .val (.int nv), .val (.int jv), .val (.ref b1), .val (.long low), .second, .val (.long mj), .second, .val (.long dif), .second, .val (.long bv), .second, .val (.int r1), .val (.int (1 : Int32)), .val (.int r2), .val (.long d2), .second, .val (.int (1 : Int32))] [(.int (1 : Int32))])) t
        refine XS.istore X10.here hx rfl (hb hby at_187) rfl (l' := #[.val (.int p0), .val (.int p1), .val (.long q2), .second, .val (.long q3), .second, .val (.long q4), .second, .val (.int kv), .val (.int nv), .val (.int jv), .val (.ref b1), .val (.long low), .second, .val (.long mj), .second, .val (.long dif), .second, .val (.long bv), .second, .val (.int r1), .val (.int (1 : Int32)), .val (.int r2), .val (.long d2), .second, .val (.int (1 : Int32))]) rfl ?_
        show Steps p.tables e below (T10.setTop (mkF m 189 #[.val (.int p0), .val (.int p1), .val (.long q2), .second, .val (.long q3), .second, .val (.long q4), .second, .val (.int kv), .val (.int nv), .val (.int jv), .val (.ref b1), .val (.long low), .second, .val (.long mj), .second, .val (.long dif), .second, .val (.long bv), .second, .val (.int r1), .val (.int (1 : Int32)), .val (.int r2), .val (.long d2), .second, .val (.int (1 : Int32))] [])) t
        refine XS.iload X10.here hx rfl (hb hby at_189) rfl ?_
        show Steps p.tables e below (T10.setTop (mkF m 191 #[.val (.int p0), .val (.int p1), .val (.long q2), .second, .val (.long q3), .second, .val (.long q4), .second, .val (.int kv), .val (.int nv), .val (.int jv), .val (.ref b1), .val (.long low), .second, .val (.long mj), .second, .val (.long dif), .second, .val (.long bv), .second, .val (.int r1), .val (.int (1 : Int32)), .val (.int r2), .val (.long d2), .second, .val (.int (1 : Int32))] [(.int (1 : Int32))])) t
        refine XS.ifNo X10.here hx rfl (hb hby at_191) rfl (by decide) ?_
        show Steps p.tables e below (T10.setTop (mkF m 194 #[.val (.int p0), .val (.int p1), .val (.long q2), .second, .val (.long q3), .second, .val (.long q4), .second, .val (.int kv), .val (.int nv), .val (.int jv), .val (.ref b1), .val (.long low), .second, .val (.long mj), .second, .val (.long dif), .second, .val (.long bv), .second, .val (.int r1), .val (.int (1 : Int32)), .val (.int r2), .val (.long d2), .second, .val (.int (1 : Int32))] [])) t
        refine XS.iload X10.here hx rfl (hb hby at_194) rfl ?_
        show Steps p.tables e below (T10.setTop (mkF m 196 #[.val (.int p0), .val (.int p1), .val (.long q2), .second, .val (.long q3), .second, .val (.long q4), .second, .val (.int kv), .val (.int nv), .val (.int jv), .val (.ref b1), .val (.long low), .second, .val (.long mj), .second, .val (.long dif), .second, .val (.long bv), .second, .val (.int r1), .val (.int (1 : Int32)), .val (.int r2), .val (.long d2), .second, .val (.int (1 : Int32))] [(.int r2)])) t
        exact kt
      by_cases hc196_11 : (0 : Int32) < r2
      · refine own_go (T' := T10) (f' := (mkF m 207 #[.val (.int p0), .val (.int p1), .val (.long q2), .second, .val (.long q3), .second, .val (.long q4), .second, .val (.int kv), .val (.int nv), .val (.int jv), .val (.ref b1), .val (.long low), .second, .val (.long mj), .second, .val (.long dif), .second, .val (.long bv), .second, .val (.int r1), .val (.int (1 : Int32)), .val (.int r2), .val (.long d2), .second, .val (.int (1 : Int32))] [(.int (r2 - (1 : Int32))), (.int kv), (.long d2)])) (fun t kt => ?_) ?_
        · show Steps p.tables e below (T10.setTop (mkF m 196 #[.val (.int p0), .val (.int p1), .val (.long q2), .second, .val (.long q3), .second, .val (.long q4), .second, .val (.int kv), .val (.int nv), .val (.int jv), .val (.ref b1), .val (.long low), .second, .val (.long mj), .second, .val (.long dif), .second, .val (.long bv), .second, .val (.int r1), .val (.int (1 : Int32)), .val (.int r2), .val (.long d2), .second, .val (.int (1 : Int32))] [(.int r2)])) t
          refine XS.ifNo X10.here hx rfl (hb hby at_196) rfl ((if0 _ _).trans (tlt hc196_11).2.2.2) ?_
          show Steps p.tables e below (T10.setTop (mkF m 199 #[.val (.int p0), .val (.int p1), .val (.long q2), .second, .val (.long q3), .second, .val (.long q4), .second, .val (.int kv), .val (.int nv), .val (.int jv), .val (.ref b1), .val (.long low), .second, .val (.long mj), .second, .val (.long dif), .second, .val (.long bv), .second, .val (.int r1), .val (.int (1 : Int32)), .val (.int r2), .val (.long d2), .second, .val (.int (1 : Int32))] [])) t
          refine XS.lload X10.here hx rfl (hb hby at_199) rfl ?_
          show Steps p.tables e below (T10.setTop (mkF m 201 #[.val (.int p0), .val (.int p1), .val (.long q2), .second, .val (.long q3), .second, .val (.long q4), .second, .val (.int kv), .val (.int nv), .val (.int jv), .val (.ref b1), .val (.long low), .second, .val (.long mj), .second, .val (.long dif), .second, .val (.long bv), .second, .val (.int r1), .val (.int (1 : Int32)), .val (.int r2), .val (.long d2), .second, .val (.int (1 : Int32))] [(.long d2)])) t
          refine XS.iload X10.here hx rfl (hb hby at_201) rfl ?_
          show Steps p.tables e below (T10.setTop (mkF m 203 #[.val (.int p0), .val (.int p1), .val (.long q2), .second, .val (.long q3), .second, .val (.long q4), .second, .val (.int kv), .val (.int nv), .val (.int jv), .val (.ref b1), .val (.long low), .second, .val (.long mj), .second, .val (.long dif), .second, .val (.long bv), .second, .val (.int r1), .val (.int (1 : Int32)), .val (.int r2), .val (.long d2), .second, .val (.int (1 : Int32))] [(.int kv), (.long d2)])) t
          refine XS.iload X10.here hx rfl (hb hby at_203) rfl ?_
          show Steps p.tables e below (T10.setTop (mkF m 205 #[.val (.int p0), .val (.int p1), .val (.long q2), .second, .val (.long q3), .second, .val (.long q4), .second, .val (.int kv), .val (.int nv), .val (.int jv), .val (.ref b1), .val (.long low), .second, .val (.long mj), .second, .val (.long dif), .second, .val (.long bv), .second, .val (.int r1), .val (.int (1 : Int32)), .val (.int r2), .val (.long d2), .second, .val (.int (1 : Int32))] [(.int r2), (.int kv), (.long d2)])) t
          refine XS.iconst X10.here hx rfl (hb hby at_205) ?_
          show Steps p.tables e below (T10.setTop (mkF m 206 #[.val (.int p0), .val (.int p1), .val (.long q2), .second, .val (.long q3), .second, .val (.long q4), .second, .val (.int kv), .val (.int nv), .val (.int jv), .val (.ref b1), .val (.long low), .second, .val (.long mj), .second, .val (.long dif), .second, .val (.long bv), .second, .val (.int r1), .val (.int (1 : Int32)), .val (.int r2), .val (.long d2), .second, .val (.int (1 : Int32))] [(.int (1 : Int32)), (.int r2), (.int kv), (.long d2)])) t
          refine XS.isub X10.here hx rfl (hb hby at_206) rfl ?_
          show Steps p.tables e below (T10.setTop (mkF m 207 #[.val (.int p0), .val (.int p1), .val (.long q2), .second, .val (.long q3), .second, .val (.long q4), .second, .val (.int kv), .val (.int nv), .val (.int jv), .val (.ref b1), .val (.long low), .second, .val (.long mj), .second, .val (.long dif), .second, .val (.long bv), .second, .val (.int r1), .val (.int (1 : Int32)), .val (.int r2), .val (.long d2), .second, .val (.int (1 : Int32))] [(.int (r2 - (1 : Int32))), (.int kv), (.long d2)])) t
          exact kt
        refine own_callSp X10 hx hZ hown e10 (hw _ (List.mem_of_getElem? (i := 38) rfl)) (hw _ (List.mem_of_getElem? (i := 39) rfl)) (hw _ (List.mem_of_getElem? (i := 23) rfl)) (hw _ (List.mem_of_getElem? (i := 40) rfl)) (by decide) (rm7 l Z aw hw kv (r2 - (1 : Int32)) nt (rt - 1) T2.heap n0 ZKq2 hzt h0t hnt (own_dec hrt hc196_11) (by have := (own_pos hrt).mp hc196_11; omega)) (g := (mkF m 207 #[.val (.int p0), .val (.int p1), .val (.long q2), .second, .val (.long q3), .second, .val (.long q4), .second, .val (.int kv), .val (.int nv), .val (.int jv), .val (.ref b1), .val (.long low), .second, .val (.long mj), .second, .val (.long dif), .second, .val (.long bv), .second, .val (.int r1), .val (.int (1 : Int32)), .val (.int r2), .val (.long d2), .second, .val (.int (1 : Int32))] [(.int (r2 - (1 : Int32))), (.int kv), (.long d2)])) rfl (by rw [hml]; rfl) (argsL := [(.int kv), (.int (r2 - (1 : Int32)))]) (rest := [(.long d2)]) (lenOf pd_3 rfl) rfl rfl (W := 2) (by show 2 * 0 + _ ≤ _; exact Nat.le_of_eq rfl) (hb hby at_207) (by decide) (by decide) (by decide) (by decide) ?_
        intro T12 X12 e12
        refine own_go (T' := T12) (f' := (mkF m 221 #[.val (.int p0), .val (.int p1), .val (.long q2), .second, .val (.long q3), .second, .val (.long q4), .second, .val (.int kv), .val (.int nv), .val (.int jv), .val (.ref b1), .val (.long low), .second, .val (.long mj), .second, .val (.long dif), .second, .val (.long bv), .second, .val (.int r1), .val (.int (1 : Int32)), .val (.int r2), .val (.long d2), .second, .val (.int (1 : Int32))] [(.int (0 : Int32)), (.int kv), (.long d2)])) (fun t kt => ?_) ?_
        · show Steps p.tables e below (T12.setTop (mkF m 210 #[.val (.int p0), .val (.int p1), .val (.long q2), .second, .val (.long q3), .second, .val (.long q4), .second, .val (.int kv), .val (.int nv), .val (.int jv), .val (.ref b1), .val (.long low), .second, .val (.long mj), .second, .val (.long dif), .second, .val (.long bv), .second, .val (.int r1), .val (.int (1 : Int32)), .val (.int r2), .val (.long d2), .second, .val (.int (1 : Int32))] [(.long (own_mkv (Int32.ofNat (own_st nt (rt - 1))) ((Int32.ofNat (own_st nt ((rt - 1) + 1))) - (Int32.ofNat (own_st nt (rt - 1)))))), (.long d2)])) t
          refine XS.land X12.here hx rfl (hb hby at_210) rfl ?_
          show Steps p.tables e below (T12.setTop (mkF m 211 #[.val (.int p0), .val (.int p1), .val (.long q2), .second, .val (.long q3), .second, .val (.long q4), .second, .val (.int kv), .val (.int nv), .val (.int jv), .val (.ref b1), .val (.long low), .second, .val (.long mj), .second, .val (.long dif), .second, .val (.long bv), .second, .val (.int r1), .val (.int (1 : Int32)), .val (.int r2), .val (.long d2), .second, .val (.int (1 : Int32))] [(.long (d2 &&& (own_mkv (Int32.ofNat (own_st nt (rt - 1))) ((Int32.ofNat (own_st nt ((rt - 1) + 1))) - (Int32.ofNat (own_st nt (rt - 1)))))))])) t
          refine XS.lconst X12.here hx rfl (hb hby at_211) ?_
          show Steps p.tables e below (T12.setTop (mkF m 212 #[.val (.int p0), .val (.int p1), .val (.long q2), .second, .val (.long q3), .second, .val (.long q4), .second, .val (.int kv), .val (.int nv), .val (.int jv), .val (.ref b1), .val (.long low), .second, .val (.long mj), .second, .val (.long dif), .second, .val (.long bv), .second, .val (.int r1), .val (.int (1 : Int32)), .val (.int r2), .val (.long d2), .second, .val (.int (1 : Int32))] [(.long (0 : Int64)), (.long (d2 &&& (own_mkv (Int32.ofNat (own_st nt (rt - 1))) ((Int32.ofNat (own_st nt ((rt - 1) + 1))) - (Int32.ofNat (own_st nt (rt - 1)))))))])) t
          refine XS.lcmp X12.here hx rfl (hb hby at_212) rfl ?_
          show Steps p.tables e below (T12.setTop (mkF m 213 #[.val (.int p0), .val (.int p1), .val (.long q2), .second, .val (.long q3), .second, .val (.long q4), .second, .val (.int kv), .val (.int nv), .val (.int jv), .val (.ref b1), .val (.long low), .second, .val (.long mj), .second, .val (.long dif), .second, .val (.long bv), .second, .val (.int r1), .val (.int (1 : Int32)), .val (.int r2), .val (.long d2), .second, .val (.int (1 : Int32))] [(.int (lcmpW (d2 &&& (own_mkv (Int32.ofNat (own_st nt (rt - 1))) ((Int32.ofNat (own_st nt ((rt - 1) + 1))) - (Int32.ofNat (own_st nt (rt - 1)))))) (0 : Int64)))])) t
          refine XS.ifNo X12.here hx rfl (hb hby at_213) rfl (own_lN_eq (show ¬ ((d2 &&& (own_mkv (Int32.ofNat (own_st nt (rt - 1))) ((Int32.ofNat (own_st nt ((rt - 1) + 1))) - (Int32.ofNat (own_st nt (rt - 1)))))) = (0 : Int64)) from by have q := (own_pos hrt).mp hc196_11; have e : rt - 1 < nt := (by omega); rw [← own_isM_eq (hfm (rt - 1) e) (own_mkM h0t hnt e), hd2]; exact hrs.2.2.1 (rt - 1) (Nat.zero_le _) (by omega))) ?_
          show Steps p.tables e below (T12.setTop (mkF m 216 #[.val (.int p0), .val (.int p1), .val (.long q2), .second, .val (.long q3), .second, .val (.long q4), .second, .val (.int kv), .val (.int nv), .val (.int jv), .val (.ref b1), .val (.long low), .second, .val (.long mj), .second, .val (.long dif), .second, .val (.long bv), .second, .val (.int r1), .val (.int (1 : Int32)), .val (.int r2), .val (.long d2), .second, .val (.int (1 : Int32))] [])) t
          refine XS.lload X12.here hx rfl (hb hby at_216) rfl ?_
          show Steps p.tables e below (T12.setTop (mkF m 218 #[.val (.int p0), .val (.int p1), .val (.long q2), .second, .val (.long q3), .second, .val (.long q4), .second, .val (.int kv), .val (.int nv), .val (.int jv), .val (.ref b1), .val (.long low), .second, .val (.long mj), .second, .val (.long dif), .second, .val (.long bv), .second, .val (.int r1), .val (.int (1 : Int32)), .val (.int r2), .val (.long d2), .second, .val (.int (1 : Int32))] [(.long d2)])) t
          refine XS.iload X12.here hx rfl (hb hby at_218) rfl ?_
          show Steps p.tables e below (T12.setTop (mkF m 220 #[.val (.int p0), .val (.int p1), .val (.long q2), .second, .val (.long q3), .second, .val (.long q4), .second, .val (.int kv), .val (.int nv), .val (.int jv), .val (.ref b1), .val (.long low), .second, .val (.long mj), .second, .val (.long dif), .second, .val (.long bv), .second, .val (.int r1), .val (.int (1 : Int32)), .val (.int r2), .val (.long d2), .second, .val (.int (1 : Int32))] [(.int kv), (.long d2)])) t
          refine XS.iconst X12.here hx rfl (hb hby at_220) ?_
          show Steps p.tables e below (T12.setTop (mkF m 221 #[.val (.int p0), .val (.int p1), .val (.long q2), .second, .val (.long q3), .second, .val (.long q4), .second, .val (.int kv), .val (.int nv), .val (.int jv), .val (.ref b1), .val (.long low), .second, .val (.long mj), .second, .val (.long dif), .second, .val (.long bv), .second, .val (.int r1), .val (.int (1 : Int32)), .val (.int r2), .val (.long d2), .second, .val (.int (1 : Int32))] [(.int (0 : Int32)), (.int kv), (.long d2)])) t
          exact kt
        refine own_callSp X12 hx hZ hown e12 (hw _ (List.mem_of_getElem? (i := 38) rfl)) (hw _ (List.mem_of_getElem? (i := 39) rfl)) (hw _ (List.mem_of_getElem? (i := 23) rfl)) (hw _ (List.mem_of_getElem? (i := 40) rfl)) (by decide) (rm7 l Z aw hw kv (0 : Int32) nt 0 T2.heap n0 ZKq2 hzt h0t hnt rfl h0t) (g := (mkF m 221 #[.val (.int p0), .val (.int p1), .val (.long q2), .second, .val (.long q3), .second, .val (.long q4), .second, .val (.int kv), .val (.int nv), .val (.int jv), .val (.ref b1), .val (.long low), .second, .val (.long mj), .second, .val (.long dif), .second, .val (.long bv), .second, .val (.int r1), .val (.int (1 : Int32)), .val (.int r2), .val (.long d2), .second, .val (.int (1 : Int32))] [(.int (0 : Int32)), (.int kv), (.long d2)])) rfl (by rw [hml]; rfl) (argsL := [(.int kv), (.int (0 : Int32))]) (rest := [(.long d2)]) (lenOf pd_3 rfl) rfl rfl (W := 2) (by show 2 * 0 + _ ≤ _; exact Nat.le_of_eq rfl) (hb hby at_221) (by decide) (by decide) (by decide) (by decide) ?_
        intro T13 X13 e13
        refine own_go (T' := T13) (f' := (mkF m 252 #[.val (.int p0), .val (.int p1), .val (.long q2), .second, .val (.long q3), .second, .val (.long q4), .second, .val (.int kv), .val (.int nv), .val (.int jv), .val (.ref b1), .val (.long low), .second, .val (.long mj), .second, .val (.long dif), .second, .val (.long bv), .second, .val (.int r1), .val (.int (1 : Int32)), .val (.int r2), .val (.long d2), .second, .val (.int (1 : Int32))] [(.int (1 : Int32))])) (fun t kt => ?_) ?_
        · show Steps p.tables e below (T13.setTop (mkF m 224 #[.val (.int p0), .val (.int p1), .val (.long q2), .second, .val (.long q3), .second, .val (.long q4), .second, .val (.int kv), .val (.int nv), .val (.int jv), .val (.ref b1), .val (.long low), .second, .val (.long mj), .second, .val (.long dif), .second, .val (.long bv), .second, .val (.int r1), .val (.int (1 : Int32)), .val (.int r2), .val (.long d2), .second, .val (.int (1 : Int32))] [(.long (own_mkv (Int32.ofNat (own_st nt 0)) ((Int32.ofNat (own_st nt (0 + 1))) - (Int32.ofNat (own_st nt 0))))), (.long d2)])) t
          refine XS.land X13.here hx rfl (hb hby at_224) rfl ?_
          show Steps p.tables e below (T13.setTop (mkF m 225 #[.val (.int p0), .val (.int p1), .val (.long q2), .second, .val (.long q3), .second, .val (.long q4), .second, .val (.int kv), .val (.int nv), .val (.int jv), .val (.ref b1), .val (.long low), .second, .val (.long mj), .second, .val (.long dif), .second, .val (.long bv), .second, .val (.int r1), .val (.int (1 : Int32)), .val (.int r2), .val (.long d2), .second, .val (.int (1 : Int32))] [(.long (d2 &&& (own_mkv (Int32.ofNat (own_st nt 0)) ((Int32.ofNat (own_st nt (0 + 1))) - (Int32.ofNat (own_st nt 0))))))])) t
          refine XS.lconst X13.here hx rfl (hb hby at_225) ?_
          show Steps p.tables e below (T13.setTop (mkF m 226 #[.val (.int p0), .val (.int p1), .val (.long q2), .second, .val (.long q3), .second, .val (.long q4), .second, .val (.int kv), .val (.int nv), .val (.int jv), .val (.ref b1), .val (.long low), .second, .val (.long mj), .second, .val (.long dif), .second, .val (.long bv), .second, .val (.int r1), .val (.int (1 : Int32)), .val (.int r2), .val (.long d2), .second, .val (.int (1 : Int32))] [(.long (0 : Int64)), (.long (d2 &&& (own_mkv (Int32.ofNat (own_st nt 0)) ((Int32.ofNat (own_st nt (0 + 1))) - (Int32.ofNat (own_st nt 0))))))])) t
          refine XS.lcmp X13.here hx rfl (hb hby at_226) rfl ?_
          show Steps p.tables e below (T13.setTop (mkF m 227 #[.val (.int p0), .val (.int p1), .val (.long q2), .second, .val (.long q3), .second, .val (.long q4), .second, .val (.int kv), .val (.int nv), .val (.int jv), .val (.ref b1), .val (.long low), .second, .val (.long mj), .second, .val (.long dif), .second, .val (.long bv), .second, .val (.int r1), .val (.int (1 : Int32)), .val (.int r2), .val (.long d2), .second, .val (.int (1 : Int32))] [(.int (lcmpW (d2 &&& (own_mkv (Int32.ofNat (own_st nt 0)) ((Int32.ofNat (own_st nt (0 + 1))) - (Int32.ofNat (own_st nt 0))))) (0 : Int64)))])) t
          refine XS.ifNo X13.here hx rfl (hb hby at_227) rfl (own_lN_eq (show ¬ ((d2 &&& (own_mkv (Int32.ofNat (own_st nt 0)) ((Int32.ofNat (own_st nt (0 + 1))) - (Int32.ofNat (own_st nt 0))))) = (0 : Int64)) from by have q := (own_pos hrt).mp hc196_11; rw [← own_isM_eq (hfm 0 h0t) (own_mkM h0t hnt h0t), hd2]; exact hrs.2.2.1 0 (Nat.zero_le _) q)) ?_
          show Steps p.tables e below (T13.setTop (mkF m 230 #[.val (.int p0), .val (.int p1), .val (.long q2), .second, .val (.long q3), .second, .val (.long q4), .second, .val (.int kv), .val (.int nv), .val (.int jv), .val (.ref b1), .val (.long low), .second, .val (.long mj), .second, .val (.long dif), .second, .val (.long bv), .second, .val (.int r1), .val (.int (1 : Int32)), .val (.int r2), .val (.long d2), .second, .val (.int (1 : Int32))] [])) t
          refine XS.iconst X13.here hx rfl (hb hby at_230) ?_
          show Steps p.tables e below (T13.setTop (mkF m 231 #[.val (.int p0), .val (.int p1), .val (.long q2), .second, .val (.long q3), .second, .val (.long q4), .second, .val (.int kv), .val (.int nv), .val (.int jv), .val (.ref b1), .val (.long low), .second, .val (.long mj), .second, .val (.long dif), .second, .val (.long bv), .second, .val (.int r1), .val (.int (1 : Int32)), .val (.int r2), .val (.long d2), .second, .val (.int (1 : Int32))] [(.int (1 : Int32))])) t
          refine XS.goto X13.here hx rfl (pc0 := 231) (pc' := 235) rfl (hb hby at_231) (by decide) (by decide) ?_
          show Steps p.tables e below (T13.setTop (mkF m 235 #[.val (.int p0), .val (.int p1), .val (.long q2), .second, .val (.long q3), .second, .val (.long q4), .second, .val (.int kv), .val (.int nv), .val (.int jv), .val (.ref b1), .val (.long low), .second, .val (.long mj), .second, .val (.long dif), .second, .val (.long bv), .second, .val (.int r1), .val (.int (1 : Int32)), .val (.int r2), .val (.long d2), .second, .val (.int (1 : Int32))] [(.int (1 : Int32))])) t
          refine XS.istore X13.here hx rfl (hb hby at_235) rfl (l' := #[.val (.int p0), .val (.int p1), .val (.long q2), .second, .val (.long q3), .second, .val (.long q4), .second, .val (.int kv), .val (.int nv), .val (.int jv), .val (.ref b1), .val (.long low), .second, .val (.long mj), .second, .val (.long dif), .second, .val (.long bv), .second, .val (.int r1), .val (.int (1 : Int32)), .val (.int r2), .val (.long d2), .second, .val (.int (1 : Int32))]) rfl ?_
          show Steps p.tables e below (T13.setTop (mkF m 237 #[.val (.int p0), .val (.int p1), .val (.long q2), .second, .val (.long q3), .second, .val (.long q4), .second, .val (.int kv), .val (.int nv), .val (.int jv), .val (.ref b1), .val (.long low), .second, .val (.long mj), .second, .val (.long dif), .second, .val (.long bv), .second, .val (.int r1), .val (.int (1 : Int32)), .val (.int r2), .val (.long d2), .second, .val (.int (1 : Int32))] [])) t
          refine XS.iload X13.here hx rfl (hb hby at_237) rfl ?_
          show Steps p.tables e below (T13.setTop (mkF m 239 #[.val (.int p0), .val (.int p1), .val (.long q2), .second, .val (.long q3), .second, .val (.long q4), .second, .val (.int kv), .val (.int nv), .val (.int jv), .val (.ref b1), .val (.long low), .second, .val (.long mj), .second, .val (.long dif), .second, .val (.long bv), .second, .val (.int r1), .val (.int (1 : Int32)), .val (.int r2), .val (.long d2), .second, .val (.int (1 : Int32))] [(.int (1 : Int32))])) t
          refine XS.ifNo X13.here hx rfl (hb hby at_239) rfl (by decide) ?_
          show Steps p.tables e below (T13.setTop (mkF m 242 #[.val (.int p0), .val (.int p1), .val (.long q2), .second, .val (.long q3), .second, .val (.long q4), .second, .val (.int kv), .val (.int nv), .val (.int jv), .val (.ref b1), .val (.long low), .second, .val (.long mj), .second, .val (.long dif), .second, .val (.long bv), .second, .val (.int r1), .val (.int (1 : Int32)), .val (.int r2), .val (.long d2), .second, .val (.int (1 : Int32))] [])) t
          refine XS.iload X13.here hx rfl (hb hby at_242) rfl ?_
          show Steps p.tables e below (T13.setTop (mkF m 244 #[.val (.int p0), .val (.int p1), .val (.long q2), .second, .val (.long q3), .second, .val (.long q4), .second, .val (.int kv), .val (.int nv), .val (.int jv), .val (.ref b1), .val (.long low), .second, .val (.long mj), .second, .val (.long dif), .second, .val (.long bv), .second, .val (.int r1), .val (.int (1 : Int32)), .val (.int r2), .val (.long d2), .second, .val (.int (1 : Int32))] [(.int (1 : Int32))])) t
          refine XS.ifNo X13.here hx rfl (hb hby at_244) rfl (by decide) ?_
          show Steps p.tables e below (T13.setTop (mkF m 247 #[.val (.int p0), .val (.int p1), .val (.long q2), .second, .val (.long q3), .second, .val (.long q4), .second, .val (.int kv), .val (.int nv), .val (.int jv), .val (.ref b1), .val (.long low), .second, .val (.long mj), .second, .val (.long dif), .second, .val (.long bv), .second, .val (.int r1), .val (.int (1 : Int32)), .val (.int r2), .val (.long d2), .second, .val (.int (1 : Int32))] [])) t
          refine XS.iconst X13.here hx rfl (hb hby at_247) ?_
          show Steps p.tables e below (T13.setTop (mkF m 248 #[.val (.int p0), .val (.int p1), .val (.long q2), .second, .val (.long q3), .second, .val (.long q4), .second, .val (.int kv), .val (.int nv), .val (.int jv), .val (.ref b1), .val (.long low), .second, .val (.long mj), .second, .val (.long dif), .second, .val (.long bv), .second, .val (.int r1), .val (.int (1 : Int32)), .val (.int r2), .val (.long d2), .second, .val (.int (1 : Int32))] [(.int (1 : Int32))])) t
          refine XS.goto X13.here hx rfl (pc0 := 248) (pc' := 252) rfl (hb hby at_248) (by decide) (by decide) ?_
          show Steps p.tables e below (T13.setTop (mkF m 252 #[.val (.int p0), .val (.int p1), .val (.long q2), .second, .val (.long q3), .second, .val (.long q4), .second, .val (.int kv), .val (.int nv), .val (.int jv), .val (.ref b1), .val (.long low), .second, .val (.long mj), .second, .val (.long dif), .second, .val (.long bv), .second, .val (.int r1), .val (.int (1 : Int32)), .val (.int r2), .val (.long d2), .second, .val (.int (1 : Int32))] [(.int (1 : Int32))])) t
          exact kt
        exact own_retN X13 hP hx hlk e13 (t := .boolean) hret (by simp) (hb hby at_252) (by decide) (by decide) (z' := (1 : Int32)) rfl ⟨rfl, N2⟩
      · refine own_go (T' := T10) (f' := (mkF m 252 #[.val (.int p0), .val (.int p1), .val (.long q2), .second, .val (.long q3), .second, .val (.long q4), .second, .val (.int kv), .val (.int nv), .val (.int jv), .val (.ref b1), .val (.long low), .second, .val (.long mj), .second, .val (.long dif), .second, .val (.long bv), .second, .val (.int r1), .val (.int (1 : Int32)), .val (.int r2), .val (.long d2), .second, .val (.int (1 : Int32))] [(.int (1 : Int32))])) (fun t kt => ?_) ?_
        · show Steps p.tables e below (T10.setTop (mkF m 196 #[.val (.int p0), .val (.int p1), .val (.long q2), .second, .val (.long q3), .second, .val (.long q4), .second, .val (.int kv), .val (.int nv), .val (.int jv), .val (.ref b1), .val (.long low), .second, .val (.long mj), .second, .val (.long dif), .second, .val (.long bv), .second, .val (.int r1), .val (.int (1 : Int32)), .val (.int r2), .val (.long d2), .second, .val (.int (1 : Int32))] [(.int r2)])) t
          refine XS.ifYes X10.here hx rfl (pc0 := 196) (pc' := 237) rfl (hb hby at_196) rfl ((if0 _ _).trans (flt hc196_11).2.2.2) (by decide) (by decide) ?_
          show Steps p.tables e below (T10.setTop (mkF m 237 #[.val (.int p0), .val (.int p1), .val (.long q2), .second, .val (.long q3), .second, .val (.long q4), .second, .val (.int kv), .val (.int nv), .val (.int jv), .val (.ref b1), .val (.long low), .second, .val (.long mj), .second, .val (.long dif), .second, .val (.long bv), .second, .val (.int r1), .val (.int (1 : Int32)), .val (.int r2), .val (.long d2), .second, .val (.int (1 : Int32))] [])) t
          refine XS.iload X10.here hx rfl (hb hby at_237) rfl ?_
          show Steps p.tables e below (T10.setTop (mkF m 239 #[.val (.int p0), .val (.int p1), .val (.long q2), .second, .val (.long q3), .second, .val (.long q4), .second, .val (.int kv), .val (.int nv), .val (.int jv), .val (.ref b1), .val (.long low), .second, .val (.long mj), .second, .val (.long dif), .second, .val (.long bv), .second, .val (.int r1), .val (.int (1 : Int32)), .val (.int r2), .val (.long d2), .second, .val (.int (1 : Int32))] [(.int (1 : Int32))])) t
          refine XS.ifNo X10.here hx rfl (hb hby at_239) rfl (by decide) ?_
          show Steps p.tables e below (T10.setTop (mkF m 242 #[.val (.int p0), .val (.int p1), .val (.long q2), .second, .val (.long q3), .second, .val (.long q4), .second, .val (.int kv), .val (.int nv), .val (.int jv), .val (.ref b1), .val (.long low), .second, .val (.long mj), .second, .val (.long dif), .second, .val (.long bv), .second, .val (.int r1), .val (.int (1 : Int32)), .val (.int r2), .val (.long d2), .second, .val (.int (1 : Int32))] [])) t
          refine XS.iload X10.here hx rfl (hb hby at_242) rfl ?_
          show Steps p.tables e below (T10.setTop (mkF m 244 #[.val (.int p0), .val (.int p1), .val (.long q2), .second, .val (.long q3), .second, .val (.long q4), .second, .val (.int kv), .val (.int nv), .val (.int jv), .val (.ref b1), .val (.long low), .second, .val (.long mj), .second, .val (.long dif), .second, .val (.long bv), .second, .val (.int r1), .val (.int (1 : Int32)), .val (.int r2), .val (.long d2), .second, .val (.int (1 : Int32))] [(.int (1 : Int32))])) t
          refine XS.ifNo X10.here hx rfl (hb hby at_244) rfl (by decide) ?_
          show Steps p.tables e below (T10.setTop (mkF m 247 #[.val (.int p0), .val (.int p1), .val (.long q2), .second, .val (.long q3), .second, .val (.long q4), .second, .val (.int kv), .val (.int nv), .val (.int jv), .val (.ref b1), .val (.long low), .second, .val (.long mj), .second, .val (.long dif), .second, .val (.long bv), .second, .val (.int r1), .val (.int (1 : Int32)), .val (.int r2), .val (.long d2), .second, .val (.int (1 : Int32))] [])) t
          refine XS.iconst X10.here hx rfl (hb hby at_247) ?_
          show Steps p.tables e below (T10.setTop (mkF m 248 #[.val (.int p0), .val (.int p1), .val (.long q2), .second, .val (.long q3), .second, .val (.long q4), .second, .val (.int kv), .val (.int nv), .val (.int jv), .val (.ref b1), .val (.long low), .second, .val (.long mj), .second, .val (.long dif), .second, .val (.long bv), .second, .val (.int r1), .val (.int (1 : Int32)), .val (.int r2), .val (.long d2), .second, .val (.int (1 : Int32))] [(.int (1 : Int32))])) t
          refine XS.goto X10.here hx rfl (pc0 := 248) (pc' := 252) rfl (hb hby at_248) (by decide) (by decide) ?_
          show Steps p.tables e below (T10.setTop (mkF m 252 #[.val (.int p0), .val (.int p1), .val (.long q2), .second, .val (.long q3), .second, .val (.long q4), .second, .val (.int kv), .val (.int nv), .val (.int jv), .val (.ref b1), .val (.long low), .second, .val (.long mj), .second, .val (.long dif), .second, .val (.long bv), .second, .val (.int r1), .val (.int (1 : Int32)), .val (.int r2), .val (.long d2), .second, .val (.int (1 : Int32))] [(.int (1 : Int32))])) t
          exact kt
        exact own_retN X10 hP hx hlk e10 (t := .boolean) hret (by simp) (hb hby at_252) (by decide) (by decide) (z' := (1 : Int32)) rfl ⟨rfl, N2⟩
    · refine own_go (T' := T8) (f' := (mkF m 196 #[.val (.int p0), .val (.int p1), .val (.long q2), .second, .val (.long q3), .second, .val (.long q4), .second, .val (.int kv), .val (.int nv), .val (.int jv), .val (.ref b1), .val (.long low), .second, .val (.long mj), .second, .val (.long dif), .second, .val (.long bv), .second, .val (.int r1), .val (.int (1 : Int32)), .val (.int r2), .val (.long d2), .second, .val (.int (1 : Int32))] [(.int r2)])) (fun t kt => ?_) ?_
      · show Steps p.tables e below (T8.setTop (mkF m 164 #[.val (.int p0), .val (.int p1), .val (.long q2), .second, .val (.long q3), .second, .val (.long q4), .second, .val (.int kv), .val (.int nv), .val (.int jv), .val (.ref b1), .val (.long low), .second, .val (.long mj), .second, .val (.long dif), .second, .val (.long bv), .second, .val (.int r1), .val (.int (1 : Int32)), .val (.int r2), .val (.long d2), .second, .val (.int (1 : Int32))] [(.int nv), (.int r2)])) t
        refine XS.icmpYes X8.here hx rfl (pc0 := 164) (pc' := 189) rfl (hb hby at_164) rfl (flt hc164_9).2.1 (by decide) (by decide) ?_
        show Steps p.tables e below (T8.setTop (mkF m 189 #[.val (.int p0), .val (.int p1), .val (.long q2), .second, .val (.long q3), .second, .val (.long q4), .second, .val (.int kv), .val (.int nv), .val (.int jv), .val (.ref b1), .val (.long low), .second, .val (.long mj), .second, .val (.long dif), .second, .val (.long bv), .second, .val (.int r1), .val (.int (1 : Int32)), .val (.int r2), .val (.long d2), .second, .val (.int (1 : Int32))] [])) t
        refine XS.iload X8.here hx rfl (hb hby at_189) rfl ?_
        show Steps p.tables e below (T8.setTop (mkF m 191 #[.val (.int p0), .val (.int p1), .val (.long q2), .second, .val (.long q3), .second, .val (.long q4), .second, .val (.int kv), .val (.int nv), .val (.int jv), .val (.ref b1), .val (.long low), .second, .val (.long mj), .second, .val (.long dif), .second, .val (.long bv), .second, .val (.int r1), .val (.int (1 : Int32)), .val (.int r2), .val (.long d2), .second, .val (.int (1 : Int32))] [(.int (1 : Int32))])) t
        refine XS.ifNo X8.here hx rfl (hb hby at_191) rfl (by decide) ?_
        show Steps p.tables e below (T8.setTop (mkF m 194 #[.val (.int p0), .val (.int p1), .val (.long q2), .second, .val (.long q3), .second, .val (.long q4), .second, .val (.int kv), .val (.int nv), .val (.int jv), .val (.ref b1), .val (.long low), .second, .val (.long mj), .second, .val (.long dif), .second, .val (.long bv), .second, .val (.int r1), .val (.int (1 : Int32)), .val (.int r2), .val (.long d2), .second, .val (.int (1 : Int32))] [])) t
        refine XS.iload X8.here hx rfl (hb hby at_194) rfl ?_
        show Steps p.tables e below (T8.setTop (mkF m 196 #[.val (.int p0), .val (.int p1), .val (.long q2), .second, .val (.long q3), .second, .val (.long q4), .second, .val (.int kv), .val (.int nv), .val (.int jv), .val (.ref b1), .val (.long low), .second, .val (.long mj), .second, .val (.long dif), .second, .val (.long bv), .second, .val (.int r1), .val (.int (1 : Int32)), .val (.int r2), .val (.long d2), .second, .val (.int (1 : Int32))] [(.int r2)])) t
        exact kt
      by_cases hc196_14 : (0 : Int32) < r2
      · refine own_go (T' := T8) (f' := (mkF m 207 #[.val (.int p0), .val (.int p1), .val (.long q2), .second, .val (.long q3), .second, .val (.long q4), .second, .val (.int kv), .val (.int nv), .val (.int jv), .val (.ref b1), .val (.long low), .second, .val (.long mj), .second, .val (.long dif), .second, .val (.long bv), .second, .val (.int r1), .val (.int (1 : Int32)), .val (.int r2), .val (.long d2), .second, .val (.int (1 : Int32))] [(.int (r2 - (1 : Int32))), (.int kv), (.long d2)])) (fun t kt => ?_) ?_
        · show Steps p.tables e below (T8.setTop (mkF m 196 #[.val (.int p0), .val (.int p1), .val (.long q2), .second, .val (.long q3), .second, .val (.long q4), .second, .val (.int kv), .val (.int nv), .val (.int jv), .val (.ref b1), .val (.long low), .second, .val (.long mj), .second, .val (.long dif), .second, .val (.long bv), .second, .val (.int r1), .val (.int (1 : Int32)), .val (.int r2), .val (.long d2), .second, .val (.int (1 : Int32))] [(.int r2)])) t
          refine XS.ifNo X8.here hx rfl (hb hby at_196) rfl ((if0 _ _).trans (tlt hc196_14).2.2.2) ?_
          show Steps p.tables e below (T8.setTop (mkF m 199 #[.val (.int p0), .val (.int p1), .val (.long q2), .second, .val (.long q3), .second, .val (.long q4), .second, .val (.int kv), .val (.int nv), .val (.int jv), .val (.ref b1), .val (.long low), .second, .val (.long mj), .second, .val (.long dif), .second, .val (.long bv), .second, .val (.int r1), .val (.int (1 : Int32)), .val (.int r2), .val (.long d2), .second, .val (.int (1 : Int32))] [])) t
          refine XS.lload X8.here hx rfl (hb hby at_199) rfl ?_
          show Steps p.tables e below (T8.setTop (mkF m 201 #[.val (.int p0), .val (.int p1), .val (.long q2), .second, .val (.long q3), .second, .val (.long q4), .second, .val (.int kv), .val (.int nv), .val (.int jv), .val (.ref b1), .val (.long low), .second, .val (.long mj), .second, .val (.long dif), .second, .val (.long bv), .second, .val (.int r1), .val (.int (1 : Int32)), .val (.int r2), .val (.long d2), .second, .val (.int (1 : Int32))] [(.long d2)])) t
          refine XS.iload X8.here hx rfl (hb hby at_201) rfl ?_
          show Steps p.tables e below (T8.setTop (mkF m 203 #[.val (.int p0), .val (.int p1), .val (.long q2), .second, .val (.long q3), .second, .val (.long q4), .second, .val (.int kv), .val (.int nv), .val (.int jv), .val (.ref b1), .val (.long low), .second, .val (.long mj), .second, .val (.long dif), .second, .val (.long bv), .second, .val (.int r1), .val (.int (1 : Int32)), .val (.int r2), .val (.long d2), .second, .val (.int (1 : Int32))] [(.int kv), (.long d2)])) t
          refine XS.iload X8.here hx rfl (hb hby at_203) rfl ?_
          show Steps p.tables e below (T8.setTop (mkF m 205 #[.val (.int p0), .val (.int p1), .val (.long q2), .second, .val (.long q3), .second, .val (.long q4), .second, .val (.int kv), .val (.int nv), .val (.int jv), .val (.ref b1), .val (.long low), .second, .val (.long mj), .second, .val (.long dif), .second, .val (.long bv), .second, .val (.int r1), .val (.int (1 : Int32)), .val (.int r2), .val (.long d2), .second, .val (.int (1 : Int32))] [(.int r2), (.int kv), (.long d2)])) t
          refine XS.iconst X8.here hx rfl (hb hby at_205) ?_
          show Steps p.tables e below (T8.setTop (mkF m 206 #[.val (.int p0), .val (.int p1), .val (.long q2), .second, .val (.long q3), .second, .val (.long q4), .second, .val (.int kv), .val (.int nv), .val (.int jv), .val (.ref b1), .val (.long low), .second, .val (.long mj), .second, .val (.long dif), .second, .val (.long bv), .second, .val (.int r1), .val (.int (1 : Int32)), .val (.int r2), .val (.long d2), .second, .val (.int (1 : Int32))] [(.int (1 : Int32)), (.int r2), (.int kv), (.long d2)])) t
          refine XS.isub X8.here hx rfl (hb hby at_206) rfl ?_
          show Steps p.tables e below (T8.setTop (mkF m 207 #[.val (.int p0), .val (.int p1), .val (.long q2), .second, .val (.long q3), .second, .val (.long q4), .second, .val (.int kv), .val (.int nv), .val (.int jv), .val (.ref b1), .val (.long low), .second, .val (.long mj), .second, .val (.long dif), .second, .val (.long bv), .second, .val (.int r1), .val (.int (1 : Int32)), .val (.int r2), .val (.long d2), .second, .val (.int (1 : Int32))] [(.int (r2 - (1 : Int32))), (.int kv), (.long d2)])) t
          exact kt
        refine own_callSp X8 hx hZ hown e8 (hw _ (List.mem_of_getElem? (i := 38) rfl)) (hw _ (List.mem_of_getElem? (i := 39) rfl)) (hw _ (List.mem_of_getElem? (i := 23) rfl)) (hw _ (List.mem_of_getElem? (i := 40) rfl)) (by decide) (rm7 l Z aw hw kv (r2 - (1 : Int32)) nt (rt - 1) T2.heap n0 ZKq2 hzt h0t hnt (own_dec hrt hc196_14) (by have := (own_pos hrt).mp hc196_14; omega)) (g := (mkF m 207 #[.val (.int p0), .val (.int p1), .val (.long q2), .second, .val (.long q3), .second, .val (.long q4), .second, .val (.int kv), .val (.int nv), .val (.int jv), .val (.ref b1), .val (.long low), .second, .val (.long mj), .second, .val (.long dif), .second, .val (.long bv), .second, .val (.int r1), .val (.int (1 : Int32)), .val (.int r2), .val (.long d2), .second, .val (.int (1 : Int32))] [(.int (r2 - (1 : Int32))), (.int kv), (.long d2)])) rfl (by rw [hml]; rfl) (argsL := [(.int kv), (.int (r2 - (1 : Int32)))]) (rest := [(.long d2)]) (lenOf pd_3 rfl) rfl rfl (W := 2) (by show 2 * 0 + _ ≤ _; exact Nat.le_of_eq rfl) (hb hby at_207) (by decide) (by decide) (by decide) (by decide) ?_
        intro T15 X15 e15
        refine own_go (T' := T15) (f' := (mkF m 221 #[.val (.int p0), .val (.int p1), .val (.long q2), .second, .val (.long q3), .second, .val (.long q4), .second, .val (.int kv), .val (.int nv), .val (.int jv), .val (.ref b1), .val (.long low), .second, .val (.long mj), .second, .val (.long dif), .second, .val (.long bv), .second, .val (.int r1), .val (.int (1 : Int32)), .val (.int r2), .val (.long d2), .second, .val (.int (1 : Int32))] [(.int (0 : Int32)), (.int kv), (.long d2)])) (fun t kt => ?_) ?_
        · show Steps p.tables e below (T15.setTop (mkF m 210 #[.val (.int p0), .val (.int p1), .val (.long q2), .second, .val (.long q3), .second, .val (.long q4), .second, .val (.int kv), .val (.int nv), .val (.int jv), .val (.ref b1), .val (.long low), .second, .val (.long mj), .second, .val (.long dif), .second, .val (.long bv), .second, .val (.int r1), .val (.int (1 : Int32)), .val (.int r2), .val (.long d2), .second, .val (.int (1 : Int32))] [(.long (own_mkv (Int32.ofNat (own_st nt (rt - 1))) ((Int32.ofNat (own_st nt ((rt - 1) + 1))) - (Int32.ofNat (own_st nt (rt - 1)))))), (.long d2)])) t
          refine XS.land X15.here hx rfl (hb hby at_210) rfl ?_
          show Steps p.tables e below (T15.setTop (mkF m 211 #[.val (.int p0), .val (.int p1), .val (.long q2), .second, .val (.long q3), .second, .val (.long q4), .second, .val (.int kv), .val (.int nv), .val (.int jv), .val (.ref b1), .val (.long low), .second, .val (.long mj), .second, .val (.long dif), .second, .val (.long bv), .second, .val (.int r1), .val (.int (1 : Int32)), .val (.int r2), .val (.long d2), .second, .val (.int (1 : Int32))] [(.long (d2 &&& (own_mkv (Int32.ofNat (own_st nt (rt - 1))) ((Int32.ofNat (own_st nt ((rt - 1) + 1))) - (Int32.ofNat (own_st nt (rt - 1)))))))])) t
          refine XS.lconst X15.here hx rfl (hb hby at_211) ?_
          show Steps p.tables e below (T15.setTop (mkF m 212 #[.val (.int p0), .val (.int p1), .val (.long q2), .second, .val (.long q3), .second, .val (.long q4), .second, .val (.int kv), .val (.int nv), .val (.int jv), .val (.ref b1), .val (.long low), .second, .val (.long mj), .second, .val (.long dif), .second, .val (.long bv), .second, .val (.int r1), .val (.int (1 : Int32)), .val (.int r2), .val (.long d2), .second, .val (.int (1 : Int32))] [(.long (0 : Int64)), (.long (d2 &&& (own_mkv (Int32.ofNat (own_st nt (rt - 1))) ((Int32.ofNat (own_st nt ((rt - 1) + 1))) - (Int32.ofNat (own_st nt (rt - 1)))))))])) t
          refine XS.lcmp X15.here hx rfl (hb hby at_212) rfl ?_
          show Steps p.tables e below (T15.setTop (mkF m 213 #[.val (.int p0), .val (.int p1), .val (.long q2), .second, .val (.long q3), .second, .val (.long q4), .second, .val (.int kv), .val (.int nv), .val (.int jv), .val (.ref b1), .val (.long low), .second, .val (.long mj), .second, .val (.long dif), .second, .val (.long bv), .second, .val (.int r1), .val (.int (1 : Int32)), .val (.int r2), .val (.long d2), .second, .val (.int (1 : Int32))] [(.int (lcmpW (d2 &&& (own_mkv (Int32.ofNat (own_st nt (rt - 1))) ((Int32.ofNat (own_st nt ((rt - 1) + 1))) - (Int32.ofNat (own_st nt (rt - 1)))))) (0 : Int64)))])) t
          refine XS.ifNo X15.here hx rfl (hb hby at_213) rfl (own_lN_eq (show ¬ ((d2 &&& (own_mkv (Int32.ofNat (own_st nt (rt - 1))) ((Int32.ofNat (own_st nt ((rt - 1) + 1))) - (Int32.ofNat (own_st nt (rt - 1)))))) = (0 : Int64)) from by have q := (own_pos hrt).mp hc196_14; have e : rt - 1 < nt := (by omega); rw [← own_isM_eq (hfm (rt - 1) e) (own_mkM h0t hnt e), hd2]; exact hrs.2.2.1 (rt - 1) (Nat.zero_le _) (by omega))) ?_
          show Steps p.tables e below (T15.setTop (mkF m 216 #[.val (.int p0), .val (.int p1), .val (.long q2), .second, .val (.long q3), .second, .val (.long q4), .second, .val (.int kv), .val (.int nv), .val (.int jv), .val (.ref b1), .val (.long low), .second, .val (.long mj), .second, .val (.long dif), .second, .val (.long bv), .second, .val (.int r1), .val (.int (1 : Int32)), .val (.int r2), .val (.long d2), .second, .val (.int (1 : Int32))] [])) t
          refine XS.lload X15.here hx rfl (hb hby at_216) rfl ?_
          show Steps p.tables e below (T15.setTop (mkF m 218 #[.val (.int p0), .val (.int p1), .val (.long q2), .second, .val (.long q3), .second, .val (.long q4), .second, .val (.int kv), .val (.int nv), .val (.int jv), .val (.ref b1), .val (.long low), .second, .val (.long mj), .second, .val (.long dif), .second, .val (.long bv), .second, .val (.int r1), .val (.int (1 : Int32)), .val (.int r2), .val (.long d2), .second, .val (.int (1 : Int32))] [(.long d2)])) t
          refine XS.iload X15.here hx rfl (hb hby at_218) rfl ?_
          show Steps p.tables e below (T15.setTop (mkF m 220 #[.val (.int p0), .val (.int p1), .val (.long q2), .second, .val (.long q3), .second, .val (.long q4), .second, .val (.int kv), .val (.int nv), .val (.int jv), .val (.ref b1), .val (.long low), .second, .val (.long mj), .second, .val (.long dif), .second, .val (.long bv), .second, .val (.int r1), .val (.int (1 : Int32)), .val (.int r2), .val (.long d2), .second, .val (.int (1 : Int32))] [(.int kv), (.long d2)])) t
          refine XS.iconst X15.here hx rfl (hb hby at_220) ?_
          show Steps p.tables e below (T15.setTop (mkF m 221 #[.val (.int p0), .val (.int p1), .val (.long q2), .second, .val (.long q3), .second, .val (.long q4), .second, .val (.int kv), .val (.int nv), .val (.int jv), .val (.ref b1), .val (.long low), .second, .val (.long mj), .second, .val (.long dif), .second, .val (.long bv), .second, .val (.int r1), .val (.int (1 : Int32)), .val (.int r2), .val (.long d2), .second, .val (.int (1 : Int32))] [(.int (0 : Int32)), (.int kv), (.long d2)])) t
          exact kt
        refine own_callSp X15 hx hZ hown e15 (hw _ (List.mem_of_getElem? (i := 38) rfl)) (hw _ (List.mem_of_getElem? (i := 39) rfl)) (hw _ (List.mem_of_getElem? (i := 23) rfl)) (hw _ (List.mem_of_getElem? (i := 40) rfl)) (by decide) (rm7 l Z aw hw kv (0 : Int32) nt 0 T2.heap n0 ZKq2 hzt h0t hnt rfl h0t) (g := (mkF m 221 #[.val (.int p0), .val (.int p1), .val (.long q2), .second, .val (.long q3), .second, .val (.long q4), .second, .val (.int kv), .val (.int nv), .val (.int jv), .val (.ref b1), .val (.long low), .second, .val (.long mj), .second, .val (.long dif), .second, .val (.long bv), .second, .val (.int r1), .val (.int (1 : Int32)), .val (.int r2), .val (.long d2), .second, .val (.int (1 : Int32))] [(.int (0 : Int32)), (.int kv), (.long d2)])) rfl (by rw [hml]; rfl) (argsL := [(.int kv), (.int (0 : Int32))]) (rest := [(.long d2)]) (lenOf pd_3 rfl) rfl rfl (W := 2) (by show 2 * 0 + _ ≤ _; exact Nat.le_of_eq rfl) (hb hby at_221) (by decide) (by decide) (by decide) (by decide) ?_
        intro T16 X16 e16
        refine own_go (T' := T16) (f' := (mkF m 252 #[.val (.int p0), .val (.int p1), .val (.long q2), .second, .val (.long q3), .second, .val (.long q4), .second, .val (.int kv), .val (.int nv), .val (.int jv), .val (.ref b1), .val (.long low), .second, .val (.long mj), .second, .val (.long dif), .second, .val (.long bv), .second, .val (.int r1), .val (.int (1 : Int32)), .val (.int r2), .val (.long d2), .second, .val (.int (1 : Int32))] [(.int (1 : Int32))])) (fun t kt => ?_) ?_
        · show Steps p.tables e below (T16.setTop (mkF m 224 #[.val (.int p0), .val (.int p1), .val (.long q2), .second, .val (.long q3), .second, .val (.long q4), .second, .val (.int kv), .val (.int nv), .val (.int jv), .val (.ref b1), .val (.long low), .second, .val (.long mj), .second, .val (.long dif), .second, .val (.long bv), .second, .val (.int r1), .val (.int (1 : Int32)), .val (.int r2), .val (.long d2), .second, .val (.int (1 : Int32))] [(.long (own_mkv (Int32.ofNat (own_st nt 0)) ((Int32.ofNat (own_st nt (0 + 1))) - (Int32.ofNat (own_st nt 0))))), (.long d2)])) t
          refine XS.land X16.here hx rfl (hb hby at_224) rfl ?_
          show Steps p.tables e below (T16.setTop (mkF m 225 #[.val (.int p0), .val (.int p1), .val (.long q2), .second, .val (.long q3), .second, .val (.long q4), .second, .val (.int kv), .val (.int nv), .val (.int jv), .val (.ref b1), .val (.long low), .second, .val (.long mj), .second, .val (.long dif), .second, .val (.long bv), .second, .val (.int r1), .val (.int (1 : Int32)), .val (.int r2), .val (.long d2), .second, .val (.int (1 : Int32))] [(.long (d2 &&& (own_mkv (Int32.ofNat (own_st nt 0)) ((Int32.ofNat (own_st nt (0 + 1))) - (Int32.ofNat (own_st nt 0))))))])) t
          refine XS.lconst X16.here hx rfl (hb hby at_225) ?_
          show Steps p.tables e below (T16.setTop (mkF m 226 #[.val (.int p0), .val (.int p1), .val (.long q2), .second, .val (.long q3), .second, .val (.long q4), .second, .val (.int kv), .val (.int nv), .val (.int jv), .val (.ref b1), .val (.long low), .second, .val (.long mj), .second, .val (.long dif), .second, .val (.long bv), .second, .val (.int r1), .val (.int (1 : Int32)), .val (.int r2), .val (.long d2), .second, .val (.int (1 : Int32))] [(.long (0 : Int64)), (.long (d2 &&& (own_mkv (Int32.ofNat (own_st nt 0)) ((Int32.ofNat (own_st nt (0 + 1))) - (Int32.ofNat (own_st nt 0))))))])) t
          refine XS.lcmp X16.here hx rfl (hb hby at_226) rfl ?_
          show Steps p.tables e below (T16.setTop (mkF m 227 #[.val (.int p0), .val (.int p1), .val (.long q2), .second, .val (.long q3), .second, .val (.long q4), .second, .val (.int kv), .val (.int nv), .val (.int jv), .val (.ref b1), .val (.long low), .second, .val (.long mj), .second, .val (.long dif), .second, .val (.long bv), .second, .val (.int r1), .val (.int (1 : Int32)), .val (.int r2), .val (.long d2), .second, .val (.int (1 : Int32))] [(.int (lcmpW (d2 &&& (own_mkv (Int32.ofNat (own_st nt 0)) ((Int32.ofNat (own_st nt (0 + 1))) - (Int32.ofNat (own_st nt 0))))) (0 : Int64)))])) t
          refine XS.ifNo X16.here hx rfl (hb hby at_227) rfl (own_lN_eq (show ¬ ((d2 &&& (own_mkv (Int32.ofNat (own_st nt 0)) ((Int32.ofNat (own_st nt (0 + 1))) - (Int32.ofNat (own_st nt 0))))) = (0 : Int64)) from by have q := (own_pos hrt).mp hc196_14; rw [← own_isM_eq (hfm 0 h0t) (own_mkM h0t hnt h0t), hd2]; exact hrs.2.2.1 0 (Nat.zero_le _) q)) ?_
          show Steps p.tables e below (T16.setTop (mkF m 230 #[.val (.int p0), .val (.int p1), .val (.long q2), .second, .val (.long q3), .second, .val (.long q4), .second, .val (.int kv), .val (.int nv), .val (.int jv), .val (.ref b1), .val (.long low), .second, .val (.long mj), .second, .val (.long dif), .second, .val (.long bv), .second, .val (.int r1), .val (.int (1 : Int32)), .val (.int r2), .val (.long d2), .second, .val (.int (1 : Int32))] [])) t
          refine XS.iconst X16.here hx rfl (hb hby at_230) ?_
          show Steps p.tables e below (T16.setTop (mkF m 231 #[.val (.int p0), .val (.int p1), .val (.long q2), .second, .val (.long q3), .second, .val (.long q4), .second, .val (.int kv), .val (.int nv), .val (.int jv), .val (.ref b1), .val (.long low), .second, .val (.long mj), .second, .val (.long dif), .second, .val (.long bv), .second, .val (.int r1), .val (.int (1 : Int32)), .val (.int r2), .val (.long d2), .second, .val (.int (1 : Int32))] [(.int (1 : Int32))])) t
          refine XS.goto X16.here hx rfl (pc0 := 231) (pc' := 235) rfl (hb hby at_231) (by decide) (by decide) ?_
          show Steps p.tables e below (T16.setTop (mkF m 235 #[.val (.int p0), .val (.int p1), .val (.long q2), .second, .val (.long q3), .second, .val (.long q4), .second, .val (.int kv), .val (.int nv), .val (.int jv), .val (.ref b1), .val (.long low), .second, .val (.long mj), .second, .val (.long dif), .second, .val (.long bv), .second, .val (.int r1), .val (.int (1 : Int32)), .val (.int r2), .val (.long d2), .second, .val (.int (1 : Int32))] [(.int (1 : Int32))])) t
          refine XS.istore X16.here hx rfl (hb hby at_235) rfl (l' := #[.val (.int p0), .val (.int p1), .val (.long q2), .second, .val (.long q3), .second, .val (.long q4), .second, .val (.int kv), .val (.int nv), .val (.int jv), .val (.ref b1), .val (.long low), .second, .val (.long mj), .second, .val (.long dif), .second, .val (.long bv), .second, .val (.int r1), .val (.int (1 : Int32)), .val (.int r2), .val (.long d2), .second, .val (.int (1 : Int32))]) rfl ?_
          show Steps p.tables e below (T16.setTop (mkF m 237 #[.val (.int p0), .val (.int p1), .val (.long q2), .second, .val (.long q3), .second, .val (.long q4), .second, .val (.int kv), .val (.int nv), .val (.int jv), .val (.ref b1), .val (.long low), .second, .val (.long mj), .second, .val (.long dif), .second, .val (.long bv), .second, .val (.int r1), .val (.int (1 : Int32)), .val (.int r2), .val (.long d2), .second, .val (.int (1 : Int32))] [])) t
          refine XS.iload X16.here hx rfl (hb hby at_237) rfl ?_
          show Steps p.tables e below (T16.setTop (mkF m 239 #[.val (.int p0), .val (.int p1), .val (.long q2), .second, .val (.long q3), .second, .val (.long q4), .second, .val (.int kv), .val (.int nv), .val (.int jv), .val (.ref b1), .val (.long low), .second, .val (.long mj), .second, .val (.long dif), .second, .val (.long bv), .second, .val (.int r1), .val (.int (1 : Int32)), .val (.int r2), .val (.long d2), .second, .val (.int (1 : Int32))] [(.int (1 : Int32))])) t
          refine XS.ifNo X16.here hx rfl (hb hby at_239) rfl (by decide) ?_
          show Steps p.tables e below (T16.setTop (mkF m 242 #[.val (.int p0), .val (.int p1), .val (.long q2), .second, .val (.long q3), .second, .val (.long q4), .second, .val (.int kv), .val (.int nv), .val (.int jv), .val (.ref b1), .val (.long low), .second, .val (.long mj), .second, .val (.long dif), .second, .val (.long bv), .second, .val (.int r1), .val (.int (1 : Int32)), .val (.int r2), .val (.long d2), .second, .val (.int (1 : Int32))] [])) t
          refine XS.iload X16.here hx rfl (hb hby at_242) rfl ?_
          show Steps p.tables e below (T16.setTop (mkF m 244 #[.val (.int p0), .val (.int p1), .val (.long q2), .second, .val (.long q3), .second, .val (.long q4), .second, .val (.int kv), .val (.int nv), .val (.int jv), .val (.ref b1), .val (.long low), .second, .val (.long mj), .second, .val (.long dif), .second, .val (.long bv), .second, .val (.int r1), .val (.int (1 : Int32)), .val (.int r2), .val (.long d2), .second, .val (.int (1 : Int32))] [(.int (1 : Int32))])) t
          refine XS.ifNo X16.here hx rfl (hb hby at_244) rfl (by decide) ?_
          show Steps p.tables e below (T16.setTop (mkF m 247 #[.val (.int p0), .val (.int p1), .val (.long q2), .second, .val (.long q3), .second, .val (.long q4), .second, .val (.int kv), .val (.int nv), .val (.int jv), .val (.ref b1), .val (.long low), .second, .val (.long mj), .second, .val (.long dif), .second, .val (.long bv), .second, .val (.int r1), .val (.int (1 : Int32)), .val (.int r2), .val (.long d2), .second, .val (.int (1 : Int32))] [])) t
          refine XS.iconst X16.here hx rfl (hb hby at_247) ?_
          show Steps p.tables e below (T16.setTop (mkF m 248 #[.val (.int p0), .val (.int p1), .val (.long q2), .second, .val (.long q3), .second, .val (.long q4), .second, .val (.int kv), .val (.int nv), .val (.int jv), .val (.ref b1), .val (.long low), .second, .val (.long mj), .second, .val (.long dif), .second, .val (.long bv), .second, .val (.int r1), .val (.int (1 : Int32)), .val (.int r2), .val (.long d2), .second, .val (.int (1 : Int32))] [(.int (1 : Int32))])) t
          refine XS.goto X16.here hx rfl (pc0 := 248) (pc' := 252) rfl (hb hby at_248) (by decide) (by decide) ?_
          show Steps p.tables e below (T16.setTop (mkF m 252 #[.val (.int p0), .val (.int p1), .val (.long q2), .second, .val (.long q3), .second, .val (.long q4), .second, .val (.int kv), .val (.int nv), .val (.int jv), .val (.ref b1), .val (.long low), .second, .val (.long mj), .second, .val (.long dif), .second, .val (.long bv), .second, .val (.int r1), .val (.int (1 : Int32)), .val (.int r2), .val (.long d2), .second, .val (.int (1 : Int32))] [(.int (1 : Int32))])) t
          exact kt
        exact own_retN X16 hP hx hlk e16 (t := .boolean) hret (by simp) (hb hby at_252) (by decide) (by decide) (z' := (1 : Int32)) rfl ⟨rfl, N2⟩
      · refine own_go (T' := T8) (f' := (mkF m 252 #[.val (.int p0), .val (.int p1), .val (.long q2), .second, .val (.long q3), .second, .val (.long q4), .second, .val (.int kv), .val (.int nv), .val (.int jv), .val (.ref b1), .val (.long low), .second, .val (.long mj), .second, .val (.long dif), .second, .val (.long bv), .second, .val (.int r1), .val (.int (1 : Int32)), .val (.int r2), .val (.long d2), .second, .val (.int (1 : Int32))] [(.int (1 : Int32))])) (fun t kt => ?_) ?_
        · show Steps p.tables e below (T8.setTop (mkF m 196 #[.val (.int p0), .val (.int p1), .val (.long q2), .second, .val (.long q3), .second, .val (.long q4), .second, .val (.int kv), .val (.int nv), .val (.int jv), .val (.ref b1), .val (.long low), .second, .val (.long mj), .second, .val (.long dif), .second, .val (.long bv), .second, .val (.int r1), .val (.int (1 : Int32)), .val (.int r2), .val (.long d2), .second, .val (.int (1 : Int32))] [(.int r2)])) t
          refine XS.ifYes X8.here hx rfl (pc0 := 196) (pc' := 237) rfl (hb hby at_196) rfl ((if0 _ _).trans (flt hc196_14).2.2.2) (by decide) (by decide) ?_
          show Steps p.tables e below (T8.setTop (mkF m 237 #[.val (.int p0), .val (.int p1), .val (.long q2), .second, .val (.long q3), .second, .val (.long q4), .second, .val (.int kv), .val (.int nv), .val (.int jv), .val (.ref b1), .val (.long low), .second, .val (.long mj), .second, .val (.long dif), .second, .val (.long bv), .second, .val (.int r1), .val (.int (1 : Int32)), .val (.int r2), .val (.long d2), .second, .val (.int (1 : Int32))] [])) t
          refine XS.iload X8.here hx rfl (hb hby at_237) rfl ?_
          show Steps p.tables e below (T8.setTop (mkF m 239 #[.val (.int p0), .val (.int p1), .val (.long q2), .second, .val (.long q3), .second, .val (.long q4), .second, .val (.int kv), .val (.int nv), .val (.int jv), .val (.ref b1), .val (.long low), .second, .val (.long mj), .second, .val (.long dif), .second, .val (.long bv), .second, .val (.int r1), .val (.int (1 : Int32)), .val (.int r2), .val (.long d2), .second, .val (.int (1 : Int32))] [(.int (1 : Int32))])) t
          refine XS.ifNo X8.here hx rfl (hb hby at_239) rfl (by decide) ?_
          show Steps p.tables e below (T8.setTop (mkF m 242 #[.val (.int p0), .val (.int p1), .val (.long q2), .second, .val (.long q3), .second, .val (.long q4), .second, .val (.int kv), .val (.int nv), .val (.int jv), .val (.ref b1), .val (.long low), .second, .val (.long mj), .second, .val (.long dif), .second, .val (.long bv), .second, .val (.int r1), .val (.int (1 : Int32)), .val (.int r2), .val (.long d2), .second, .val (.int (1 : Int32))] [])) t
          refine XS.iload X8.here hx rfl (hb hby at_242) rfl ?_
          show Steps p.tables e below (T8.setTop (mkF m 244 #[.val (.int p0), .val (.int p1), .val (.long q2), .second, .val (.long q3), .second, .val (.long q4), .second, .val (.int kv), .val (.int nv), .val (.int jv), .val (.ref b1), .val (.long low), .second, .val (.long mj), .second, .val (.long dif), .second, .val (.long bv), .second, .val (.int r1), .val (.int (1 : Int32)), .val (.int r2), .val (.long d2), .second, .val (.int (1 : Int32))] [(.int (1 : Int32))])) t
          refine XS.ifNo X8.here hx rfl (hb hby at_244) rfl (by decide) ?_
          show Steps p.tables e below (T8.setTop (mkF m 247 #[.val (.int p0), .val (.int p1), .val (.long q2), .second, .val (.long q3), .second, .val (.long q4), .second, .val (.int kv), .val (.int nv), .val (.int jv), .val (.ref b1), .val (.long low), .second, .val (.long mj), .second, .val (.long dif), .second, .val (.long bv), .second, .val (.int r1), .val (.int (1 : Int32)), .val (.int r2), .val (.long d2), .second, .val (.int (1 : Int32))] [])) t
          refine XS.iconst X8.here hx rfl (hb hby at_247) ?_
          show Steps p.tables e below (T8.setTop (mkF m 248 #[.val (.int p0), .val (.int p1), .val (.long q2), .second, .val (.long q3), .second, .val (.long q4), .second, .val (.int kv), .val (.int nv), .val (.int jv), .val (.ref b1), .val (.long low), .second, .val (.long mj), .second, .val (.long dif), .second, .val (.long bv), .second, .val (.int r1), .val (.int (1 : Int32)), .val (.int r2), .val (.long d2), .second, .val (.int (1 : Int32))] [(.int (1 : Int32))])) t
          refine XS.goto X8.here hx rfl (pc0 := 248) (pc' := 252) rfl (hb hby at_248) (by decide) (by decide) ?_
          show Steps p.tables e below (T8.setTop (mkF m 252 #[.val (.int p0), .val (.int p1), .val (.long q2), .second, .val (.long q3), .second, .val (.long q4), .second, .val (.int kv), .val (.int nv), .val (.int jv), .val (.ref b1), .val (.long low), .second, .val (.long mj), .second, .val (.long dif), .second, .val (.long bv), .second, .val (.int r1), .val (.int (1 : Int32)), .val (.int r2), .val (.long d2), .second, .val (.int (1 : Int32))] [(.int (1 : Int32))])) t
          exact kt
        exact own_retN X8 hP hx hlk e8 (t := .boolean) hret (by simp) (hb hby at_252) (by decide) (by decide) (z' := (1 : Int32)) rfl ⟨rfl, N2⟩
  · refine own_go (T' := T4) (f' := (mkF m 88 #[.val (.int p0), .val (.int p1), .val (.long q2), .second, .val (.long q3), .second, .val (.long q4), .second, .val (.int kv), .val (.int nv), .val (.int jv), .val (.ref b1), .val (.long low), .second, .val (.long (0 : Int64)), .second, .unset, .unset, .unset, .unset, .unset, .unset, .unset, .unset, .unset, .unset] [(.long (low ||| ((q3 &&& (low ^^^ (-1 : Int64))) &&& ((0 : Int64) ^^^ (-1 : Int64)))))])) (fun t kt => ?_) ?_
    · show Steps p.tables e below (T4.setTop (mkF m 53 #[.val (.int p0), .val (.int p1), .val (.long q2), .second, .val (.long q3), .second, .val (.long q4), .second, .val (.int kv), .val (.int nv), .val (.int jv), .val (.ref b1), .val (.long low), .second, .unset, .unset, .unset, .unset, .unset, .unset, .unset, .unset, .unset, .unset, .unset, .unset] [(.int nv), (.int jv)])) t
      refine XS.icmpYes X4.here hx rfl (pc0 := 53) (pc' := 66) rfl (hb hby at_53) rfl (flt hc53_5).2.1 (by decide) (by decide) ?_
      show Steps p.tables e below (T4.setTop (mkF m 66 #[.val (.int p0), .val (.int p1), .val (.long q2), .second, .val (.long q3), .second, .val (.long q4), .second, .val (.int kv), .val (.int nv), .val (.int jv), .val (.ref b1), .val (.long low), .second, .unset, .unset, .unset, .unset, .unset, .unset, .unset, .unset, .unset, .unset, .unset, .unset] [])) t
      refine XS.lconst X4.here hx rfl (hb hby at_66) ?_
      show Steps p.tables e below (T4.setTop (mkF m 67 #[.val (.int p0), .val (.int p1), .val (.long q2), .second, .val (.long q3), .second, .val (.long q4), .second, .val (.int kv), .val (.int nv), .val (.int jv), .val (.ref b1), .val (.long low), .second, .unset, .unset, .unset, .unset, .unset, .unset, .unset, .unset, .unset, .unset, .unset, .unset] [(.long (0 : Int64))])) t
      refine XS.lstore X4.here hx rfl (hb hby at_67) rfl (l' := #[.val (.int p0), .val (.int p1), .val (.long q2), .second, .val (.long q3), .second, .val (.long q4), .second, .val (.int kv), .val (.int nv), .val (.int jv), .val (.ref b1), .val (.long low), .second, .val (.long (0 : Int64)), .second, .unset, .unset, .unset, .unset, .unset, .unset, .unset, .unset, .unset, .unset]) rfl ?_
      show Steps p.tables e below (T4.setTop (mkF m 69 #[.val (.int p0), .val (.int p1), .val (.long q2), .second, .val (.long q3), .second, .val (.long q4), .second, .val (.int kv), .val (.int nv), .val (.int jv), .val (.ref b1), .val (.long low), .second, .val (.long (0 : Int64)), .second, .unset, .unset, .unset, .unset, .unset, .unset, .unset, .unset, .unset, .unset] [])) t
      refine XS.lload X4.here hx rfl (hb hby at_69) rfl ?_
      show Steps p.tables e below (T4.setTop (mkF m 71 #[.val (.int p0), .val (.int p1), .val (.long q2), .second, .val (.long q3), .second, .val (.long q4), .second, .val (.int kv), .val (.int nv), .val (.int jv), .val (.ref b1), .val (.long low), .second, .val (.long (0 : Int64)), .second, .unset, .unset, .unset, .unset, .unset, .unset, .unset, .unset, .unset, .unset] [(.long low)])) t
      refine XS.lload X4.here hx rfl (hb hby at_71) rfl ?_
      show Steps p.tables e below (T4.setTop (mkF m 73 #[.val (.int p0), .val (.int p1), .val (.long q2), .second, .val (.long q3), .second, .val (.long q4), .second, .val (.int kv), .val (.int nv), .val (.int jv), .val (.ref b1), .val (.long low), .second, .val (.long (0 : Int64)), .second, .unset, .unset, .unset, .unset, .unset, .unset, .unset, .unset, .unset, .unset] [(.long q3), (.long low)])) t
      refine XS.lload X4.here hx rfl (hb hby at_73) rfl ?_
      show Steps p.tables e below (T4.setTop (mkF m 75 #[.val (.int p0), .val (.int p1), .val (.long q2), .second, .val (.long q3), .second, .val (.long q4), .second, .val (.int kv), .val (.int nv), .val (.int jv), .val (.ref b1), .val (.long low), .second, .val (.long (0 : Int64)), .second, .unset, .unset, .unset, .unset, .unset, .unset, .unset, .unset, .unset, .unset] [(.long low), (.long q3), (.long low)])) t
      refine X4.ldc2Long hx hown (mvT hZ (hw _ (List.mem_of_getElem? (i := 32) rfl))) (g := (mkF m 75 #[.val (.int p0), .val (.int p1), .val (.long q2), .second, .val (.long q3), .second, .val (.long q4), .second, .val (.int kv), .val (.int nv), .val (.int jv), .val (.ref b1), .val (.long low), .second, .val (.long (0 : Int64)), .second, .unset, .unset, .unset, .unset, .unset, .unset, .unset, .unset, .unset, .unset] [(.long low), (.long q3), (.long low)])) rfl (hb hby at_75) _ ?_
      show Steps p.tables e below (T4.setTop (mkF m 78 #[.val (.int p0), .val (.int p1), .val (.long q2), .second, .val (.long q3), .second, .val (.long q4), .second, .val (.int kv), .val (.int nv), .val (.int jv), .val (.ref b1), .val (.long low), .second, .val (.long (0 : Int64)), .second, .unset, .unset, .unset, .unset, .unset, .unset, .unset, .unset, .unset, .unset] [(.long (-1 : Int64)), (.long low), (.long q3), (.long low)])) t
      refine XS.lxor X4.here hx rfl (hb hby at_78) rfl ?_
      show Steps p.tables e below (T4.setTop (mkF m 79 #[.val (.int p0), .val (.int p1), .val (.long q2), .second, .val (.long q3), .second, .val (.long q4), .second, .val (.int kv), .val (.int nv), .val (.int jv), .val (.ref b1), .val (.long low), .second, .val (.long (0 : Int64)), .second, .unset, .unset, .unset, .unset, .unset, .unset, .unset, .unset, .unset, .unset] [(.long (low ^^^ (-1 : Int64))), (.long q3), (.long low)])) t
      refine XS.land X4.here hx rfl (hb hby at_79) rfl ?_
      show Steps p.tables e below (T4.setTop (mkF m 80 #[.val (.int p0), .val (.int p1), .val (.long q2), .second, .val (.long q3), .second, .val (.long q4), .second, .val (.int kv), .val (.int nv), .val (.int jv), .val (.ref b1), .val (.long low), .second, .val (.long (0 : Int64)), .second, .unset, .unset, .unset, .unset, .unset, .unset, .unset, .unset, .unset, .unset] [(.long (q3 &&& (low ^^^ (-1 : Int64)))), (.long low)])) t
      refine XS.lload X4.here hx rfl (hb hby at_80) rfl ?_
      show Steps p.tables e below (T4.setTop (mkF m 82 #[.val (.int p0), .val (.int p1), .val (.long q2), .second, .val (.long q3), .second, .val (.long q4), .second, .val (.int kv), .val (.int nv), .val (.int jv), .val (.ref b1), .val (.long low), .second, .val (.long (0 : Int64)), .second, .unset, .unset, .unset, .unset, .unset, .unset, .unset, .unset, .unset, .unset] [(.long (0 : Int64)), (.long (q3 &&& (low ^^^ (-1 : Int64)))), (.long low)])) t
      refine X4.ldc2Long hx hown (mvT hZ (hw _ (List.mem_of_getElem? (i := 32) rfl))) (g := (mkF m 82 #[.val (.int p0), .val (.int p1), .val (.long q2), .second, .val (.long q3), .second, .val (.long q4), .second, .val (.int kv), .val (.int nv), .val (.int jv), .val (.ref b1), .val (.long low), .second, .val (.long (0 : Int64)), .second, .unset, .unset, .unset, .unset, .unset, .unset, .unset, .unset, .unset, .unset] [(.long (0 : Int64)), (.long (q3 &&& (low ^^^ (-1 : Int64)))), (.long low)])) rfl (hb hby at_82) _ ?_
      show Steps p.tables e below (T4.setTop (mkF m 85 #[.val (.int p0), .val (.int p1), .val (.long q2), .second, .val (.long q3), .second, .val (.long q4), .second, .val (.int kv), .val (.int nv), .val (.int jv), .val (.ref b1), .val (.long low), .second, .val (.long (0 : Int64)), .second, .unset, .unset, .unset, .unset, .unset, .unset, .unset, .unset, .unset, .unset] [(.long (-1 : Int64)), (.long (0 : Int64)), (.long (q3 &&& (low ^^^ (-1 : Int64)))), (.long low)])) t
      refine XS.lxor X4.here hx rfl (hb hby at_85) rfl ?_
      show Steps p.tables e below (T4.setTop (mkF m 86 #[.val (.int p0), .val (.int p1), .val (.long q2), .second, .val (.long q3), .second, .val (.long q4), .second, .val (.int kv), .val (.int nv), .val (.int jv), .val (.ref b1), .val (.long low), .second, .val (.long (0 : Int64)), .second, .unset, .unset, .unset, .unset, .unset, .unset, .unset, .unset, .unset, .unset] [(.long ((0 : Int64) ^^^ (-1 : Int64))), (.long (q3 &&& (low ^^^ (-1 : Int64)))), (.long low)])) t
      refine XS.land X4.here hx rfl (hb hby at_86) rfl ?_
      show Steps p.tables e below (T4.setTop (mkF m 87 #[.val (.int p0), .val (.int p1), .val (.long q2), .second, .val (.long q3), .second, .val (.long q4), .second, .val (.int kv), .val (.int nv), .val (.int jv), .val (.ref b1), .val (.long low), .second, .val (.long (0 : Int64)), .second, .unset, .unset, .unset, .unset, .unset, .unset, .unset, .unset, .unset, .unset] [(.long ((q3 &&& (low ^^^ (-1 : Int64))) &&& ((0 : Int64) ^^^ (-1 : Int64)))), (.long low)])) t
      refine XS.lor X4.here hx rfl (hb hby at_87) rfl ?_
      show Steps p.tables e below (T4.setTop (mkF m 88 #[.val (.int p0), .val (.int p1), .val (.long q2), .second, .val (.long q3), .second, .val (.long q4), .second, .val (.int kv), .val (.int nv), .val (.int jv), .val (.ref b1), .val (.long low), .second, .val (.long (0 : Int64)), .second, .unset, .unset, .unset, .unset, .unset, .unset, .unset, .unset, .unset, .unset] [(.long (low ||| ((q3 &&& (low ^^^ (-1 : Int64))) &&& ((0 : Int64) ^^^ (-1 : Int64)))))])) t
      exact kt
    obtain ⟨dif, hdif⟩ : ∃ z, z = (low ||| ((q3 &&& (low ^^^ (-1 : Int64))) &&& ((0 : Int64) ^^^ (-1 : Int64)))) := ⟨_, rfl⟩
    rw [← hdif]
    refine own_go (T' := T4) (f' := (mkF m 94 #[.val (.int p0), .val (.int p1), .val (.long q2), .second, .val (.long q3), .second, .val (.long q4), .second, .val (.int kv), .val (.int nv), .val (.int jv), .val (.ref b1), .val (.long low), .second, .val (.long (0 : Int64)), .second, .val (.long dif), .second, .unset, .unset, .unset, .unset, .unset, .unset, .unset, .unset] [(.long (q2 ^^^ dif))])) (fun t kt => ?_) ?_
    · show Steps p.tables e below (T4.setTop (mkF m 88 #[.val (.int p0), .val (.int p1), .val (.long q2), .second, .val (.long q3), .second, .val (.long q4), .second, .val (.int kv), .val (.int nv), .val (.int jv), .val (.ref b1), .val (.long low), .second, .val (.long (0 : Int64)), .second, .unset, .unset, .unset, .unset, .unset, .unset, .unset, .unset, .unset, .unset] [(.long dif)])) t
      refine XS.lstore X4.here hx rfl (hb hby at_88) rfl (l' := #[.val (.int p0), .val (.int p1), .val (.long q2), .second, .val (.long q3), .second, .val (.long q4), .second, .val (.int kv), .val (.int nv), .val (.int jv), .val (.ref b1), .val (.long low), .second, .val (.long (0 : Int64)), .second, .val (.long dif), .second, .unset, .unset, .unset, .unset, .unset, .unset, .unset, .unset]) rfl ?_
      show Steps p.tables e below (T4.setTop (mkF m 90 #[.val (.int p0), .val (.int p1), .val (.long q2), .second, .val (.long q3), .second, .val (.long q4), .second, .val (.int kv), .val (.int nv), .val (.int jv), .val (.ref b1), .val (.long low), .second, .val (.long (0 : Int64)), .second, .val (.long dif), .second, .unset, .unset, .unset, .unset, .unset, .unset, .unset, .unset] [])) t
      refine XS.lloadN X4.here hx rfl (hb hby at_90) rfl ?_
      show Steps p.tables e below (T4.setTop (mkF m 91 #[.val (.int p0), .val (.int p1), .val (.long q2), .second, .val (.long q3), .second, .val (.long q4), .second, .val (.int kv), .val (.int nv), .val (.int jv), .val (.ref b1), .val (.long low), .second, .val (.long (0 : Int64)), .second, .val (.long dif), .second, .unset, .unset, .unset, .unset, .unset, .unset, .unset, .unset] [(.long q2)])) t
      refine XS.lload X4.here hx rfl (hb hby at_91) rfl ?_
      show Steps p.tables e below (T4.setTop (mkF m 93 #[.val (.int p0), .val (.int p1), .val (.long q2), .second, .val (.long q3), .second, .val (.long q4), .second, .val (.int kv), .val (.int nv), .val (.int jv), .val (.ref b1), .val (.long low), .second, .val (.long (0 : Int64)), .second, .val (.long dif), .second, .unset, .unset, .unset, .unset, .unset, .unset, .unset, .unset] [(.long dif), (.long q2)])) t
      refine XS.lxor X4.here hx rfl (hb hby at_93) rfl ?_
      show Steps p.tables e below (T4.setTop (mkF m 94 #[.val (.int p0), .val (.int p1), .val (.long q2), .second, .val (.long q3), .second, .val (.long q4), .second, .val (.int kv), .val (.int nv), .val (.int jv), .val (.ref b1), .val (.long low), .second, .val (.long (0 : Int64)), .second, .val (.long dif), .second, .unset, .unset, .unset, .unset, .unset, .unset, .unset, .unset] [(.long (q2 ^^^ dif))])) t
      exact kt
    obtain ⟨bv, hbv⟩ : ∃ z, z = (q2 ^^^ dif) := ⟨_, rfl⟩
    rw [← hbv]
    refine own_go (T' := T4) (f' := (mkF m 101 #[.val (.int p0), .val (.int p1), .val (.long q2), .second, .val (.long q3), .second, .val (.long q4), .second, .val (.int kv), .val (.int nv), .val (.int jv), .val (.ref b1), .val (.long low), .second, .val (.long (0 : Int64)), .second, .val (.long dif), .second, .val (.long bv), .second, .unset, .unset, .unset, .unset, .unset, .unset] [(.long bv), (.long q2), (.ref b1)])) (fun t kt => ?_) ?_
    · show Steps p.tables e below (T4.setTop (mkF m 94 #[.val (.int p0), .val (.int p1), .val (.long q2), .second, .val (.long q3), .second, .val (.long q4), .second, .val (.int kv), .val (.int nv), .val (.int jv), .val (.ref b1), .val (.long low), .second, .val (.long (0 : Int64)), .second, .val (.long dif), .second, .unset, .unset, .unset, .unset, .unset, .unset, .unset, .unset] [(.long bv)])) t
      refine XS.lstore X4.here hx rfl (hb hby at_94) rfl (l' := #[.val (.int p0), .val (.int p1), .val (.long q2), .second, .val (.long q3), .second, .val (.long q4), .second, .val (.int kv), .val (.int nv), .val (.int jv), .val (.ref b1), .val (.long low), .second, .val (.long (0 : Int64)), .second, .val (.long dif), .second, .val (.long bv), .second, .unset, .unset, .unset, .unset, .unset, .unset]) rfl ?_
      show Steps p.tables e below (T4.setTop (mkF m 96 #[.val (.int p0), .val (.int p1), .val (.long q2), .second, .val (.long q3), .second, .val (.long q4), .second, .val (.int kv), .val (.int nv), .val (.int jv), .val (.ref b1), .val (.long low), .second, .val (.long (0 : Int64)), .second, .val (.long dif), .second, .val (.long bv), .second, .unset, .unset, .unset, .unset, .unset, .unset] [])) t
      refine XS.aload X4.here hx rfl (hb hby at_96) rfl rfl ?_
      show Steps p.tables e below (T4.setTop (mkF m 98 #[.val (.int p0), .val (.int p1), .val (.long q2), .second, .val (.long q3), .second, .val (.long q4), .second, .val (.int kv), .val (.int nv), .val (.int jv), .val (.ref b1), .val (.long low), .second, .val (.long (0 : Int64)), .second, .val (.long dif), .second, .val (.long bv), .second, .unset, .unset, .unset, .unset, .unset, .unset] [(.ref b1)])) t
      refine XS.lloadN X4.here hx rfl (hb hby at_98) rfl ?_
      show Steps p.tables e below (T4.setTop (mkF m 99 #[.val (.int p0), .val (.int p1), .val (.long q2), .second, .val (.long q3), .second, .val (.long q4), .second, .val (.int kv), .val (.int nv), .val (.int jv), .val (.ref b1), .val (.long low), .second, .val (.long (0 : Int64)), .second, .val (.long dif), .second, .val (.long bv), .second, .unset, .unset, .unset, .unset, .unset, .unset] [(.long q2), (.ref b1)])) t
      refine XS.lload X4.here hx rfl (hb hby at_99) rfl ?_
      show Steps p.tables e below (T4.setTop (mkF m 101 #[.val (.int p0), .val (.int p1), .val (.long q2), .second, .val (.long q3), .second, .val (.long q4), .second, .val (.int kv), .val (.int nv), .val (.int jv), .val (.ref b1), .val (.long low), .second, .val (.long (0 : Int64)), .second, .val (.long dif), .second, .val (.long bv), .second, .unset, .unset, .unset, .unset, .unset, .unset] [(.long bv), (.long q2), (.ref b1)])) t
      exact kt
    refine own_callVp X4 hx hZ hown e4 (hw _ (List.mem_of_getElem? (i := 33) rfl)) (hw _ (List.mem_of_getElem? (i := 34) rfl)) (notFace_of_selects (args := #[]) (mvT hZ (hw _ (List.mem_of_getElem? (i := 36) rfl)))) (hw _ (List.mem_of_getElem? (i := 36) rfl)) (hw _ (List.mem_of_getElem? (i := 35) rfl)) (hw _ (List.mem_of_getElem? (i := 3) rfl)) (hw _ (List.mem_of_getElem? (i := 37) rfl)) (by decide) (rm6 l Z aw hw b1 q2 bv r2 nt fm nv T2.heap n0 ZKq2 F_r2 Ar_r2 hnv' hnt) Pq2_0 (g := (mkF m 101 #[.val (.int p0), .val (.int p1), .val (.long q2), .second, .val (.long q3), .second, .val (.long q4), .second, .val (.int kv), .val (.int nv), .val (.int jv), .val (.ref b1), .val (.long low), .second, .val (.long (0 : Int64)), .second, .val (.long dif), .second, .val (.long bv), .second, .unset, .unset, .unset, .unset, .unset, .unset] [(.long bv), (.long q2), (.ref b1)])) rfl (by rw [hml]; rfl) (argsL := [(.long q2), (.long bv)]) (rest := []) (lenOf pd_4 rfl) rfl rfl (W := 0) (by show 2 * 0 + _ ≤ _; exact Nat.le_of_eq rfl) (hb hby at_101) (by decide) (by decide) (by decide) (by decide) ?_
    intro T17 X17 e17
    obtain ⟨r1, hr1⟩ : ∃ z, z = (Int32.ofNat (own_scan fm (q2 ^^^ bv) nt 0)) := ⟨_, rfl⟩
    rw [← hr1]
    refine own_go (T' := T17) (f' := (mkF m 125 #[.val (.int p0), .val (.int p1), .val (.long q2), .second, .val (.long q3), .second, .val (.long q4), .second, .val (.int kv), .val (.int nv), .val (.int jv), .val (.ref b1), .val (.long low), .second, .val (.long (0 : Int64)), .second, .val (.long dif), .second, .val (.long bv), .second, .val (.int r1), .val (.int (1 : Int32)), .unset, .unset, .unset, .unset] [(.long q4), (.long q2), (.ref b1)])) (fun t kt => ?_) ?_
    · show Steps p.tables e below (T17.setTop (mkF m 104 #[.val (.int p0), .val (.int p1), .val (.long q2), .second, .val (.long q3), .second, .val (.long q4), .second, .val (.int kv), .val (.int nv), .val (.int jv), .val (.ref b1), .val (.long low), .second, .val (.long (0 : Int64)), .second, .val (.long dif), .second, .val (.long bv), .second, .unset, .unset, .unset, .unset, .unset, .unset] [(.int r1)])) t
      refine XS.istore X17.here hx rfl (hb hby at_104) rfl (l' := #[.val (.int p0), .val (.int p1), .val (.long q2), .second, .val (.long q3), .second, .val (.long q4), .second, .val (.int kv), .val (.int nv), .val (.int jv), .val (.ref b1), .val (.long low), .second, .val (.long (0 : Int64)), .second, .val (.long dif), .second, .val (.long bv), .second, .val (.int r1), .unset, .unset, .unset, .unset, .unset]) rfl ?_
      show Steps p.tables e below (T17.setTop (mkF m 106 #[.val (.int p0), .val (.int p1), .val (.long q2), .second, .val (.long q3), .second, .val (.long q4), .second, .val (.int kv), .val (.int nv), .val (.int jv), .val (.ref b1), .val (.long low), .second, .val (.long (0 : Int64)), .second, .val (.long dif), .second, .val (.long bv), .second, .val (.int r1), .unset, .unset, .unset, .unset, .unset] [])) t
      refine XS.iload X17.here hx rfl (hb hby at_106) rfl ?_
      show Steps p.tables e below (T17.setTop (mkF m 108 #[.val (.int p0), .val (.int p1), .val (.long q2), .second, .val (.long q3), .second, .val (.long q4), .second, .val (.int kv), .val (.int nv), .val (.int jv), .val (.ref b1), .val (.long low), .second, .val (.long (0 : Int64)), .second, .val (.long dif), .second, .val (.long bv), .second, .val (.int r1), .unset, .unset, .unset, .unset, .unset] [(.int r1)])) t
      refine XS.iload X17.here hx rfl (hb hby at_108) rfl ?_
      show Steps p.tables e below (T17.setTop (mkF m 110 #[.val (.int p0), .val (.int p1), .val (.long q2), .second, .val (.long q3), .second, .val (.long q4), .second, .val (.int kv), .val (.int nv), .val (.int jv), .val (.ref b1), .val (.long low), .second, .val (.long (0 : Int64)), .second, .val (.long dif), .second, .val (.long bv), .second, .val (.int r1), .unset, .unset, .unset, .unset, .unset] [(.int jv), (.int r1)])) t
      refine XS.icmpNo X17.here hx rfl (hb hby at_110) rfl (teq (show r1 = jv from own_r1 hr1 hbv hdif h0t hnt hjn hjt hfm (by rw [hlow]; exact own_lwM (own_ofN (by have := own_st64 h0t hjn; omega)) (own_st64 h0t hjn)) (fun h => absurd ((own_ltn hjt hnv').mpr h) hc53_5))).2 ?_
      show Steps p.tables e below (T17.setTop (mkF m 113 #[.val (.int p0), .val (.int p1), .val (.long q2), .second, .val (.long q3), .second, .val (.long q4), .second, .val (.int kv), .val (.int nv), .val (.int jv), .val (.ref b1), .val (.long low), .second, .val (.long (0 : Int64)), .second, .val (.long dif), .second, .val (.long bv), .second, .val (.int r1), .unset, .unset, .unset, .unset, .unset] [])) t
      refine XS.iconst X17.here hx rfl (hb hby at_113) ?_
      show Steps p.tables e below (T17.setTop (mkF m 114 #[.val (.int p0), .val (.int p1), .val (.long q2), .second, .val (.long q3), .second, .val (.long q4), .second, .val (.int kv), .val (.int nv), .val (.int jv), .val (.ref b1), .val (.long low), .second, .val (.long (0 : Int64)), .second, .val (.long dif), .second, .val (.long bv), .second, .val (.int r1), .unset, .unset, .unset, .unset, .unset] [(.int (1 : Int32))])) t
      refine XS.goto X17.here hx rfl (pc0 := 114) (pc' := 118) rfl (hb hby at_114) (by decide) (by decide) ?_
      show Steps p.tables e below (T17.setTop (mkF m 118 #[.val (.int p0), .val (.int p1), .val (.long q2), .second, .val (.long q3), .second, .val (.long q4), .second, .val (.int kv), .val (.int nv), .val (.int jv), .val (.ref b1), .val (.long low), .second, .val (.long (0 : Int64)), .second, .val (.long dif), .second, .val (.long bv), .second, .val (.int r1), .unset, .unset, .unset, .unset, .unset] [(.int (1 : Int32))])) t
      refine XS.istore X17.here hx rfl (hb hby at_118) rfl (l' := #[.val (.int p0), .val (.int p1), .val (.long q2), .second, .val (.long q3), .second, .val (.long q4), .second, .val (.int kv), .val (.int nv), .val (.int jv), .val (.ref b1), .val (.long low), .second, .val (.long (0 : Int64)), .second, .val (.long dif), .second, .val (.long bv), .second, .val (.int r1), .val (.int (1 : Int32)), .unset, .unset, .unset, .unset]) rfl ?_
      show Steps p.tables e below (T17.setTop (mkF m 120 #[.val (.int p0), .val (.int p1), .val (.long q2), .second, .val (.long q3), .second, .val (.long q4), .second, .val (.int kv), .val (.int nv), .val (.int jv), .val (.ref b1), .val (.long low), .second, .val (.long (0 : Int64)), .second, .val (.long dif), .second, .val (.long bv), .second, .val (.int r1), .val (.int (1 : Int32)), .unset, .unset, .unset, .unset] [])) t
      refine XS.aload X17.here hx rfl (hb hby at_120) rfl rfl ?_
      show Steps p.tables e below (T17.setTop (mkF m 122 #[.val (.int p0), .val (.int p1), .val (.long q2), .second, .val (.long q3), .second, .val (.long q4), .second, .val (.int kv), .val (.int nv), .val (.int jv), .val (.ref b1), .val (.long low), .second, .val (.long (0 : Int64)), .second, .val (.long dif), .second, .val (.long bv), .second, .val (.int r1), .val (.int (1 : Int32)), .unset, .unset, .unset, .unset] [(.ref b1)])) t
      refine XS.lloadN X17.here hx rfl (hb hby at_122) rfl ?_
      show Steps p.tables e below (T17.setTop (mkF m 123 #[.val (.int p0), .val (.int p1), .val (.long q2), .second, .val (.long q3), .second, .val (.long q4), .second, .val (.int kv), .val (.int nv), .val (.int jv), .val (.ref b1), .val (.long low), .second, .val (.long (0 : Int64)), .second, .val (.long dif), .second, .val (.long bv), .second, .val (.int r1), .val (.int (1 : Int32)), .unset, .unset, .unset, .unset] [(.long q2), (.ref b1)])) t
      refine XS.lload X17.here hx rfl (hb hby at_123) rfl ?_
      show Steps p.tables e below (T17.setTop (mkF m 125 #[.val (.int p0), .val (.int p1), .val (.long q2), .second, .val (.long q3), .second, .val (.long q4), .second, .val (.int kv), .val (.int nv), .val (.int jv), .val (.ref b1), .val (.long low), .second, .val (.long (0 : Int64)), .second, .val (.long dif), .second, .val (.long bv), .second, .val (.int r1), .val (.int (1 : Int32)), .unset, .unset, .unset, .unset] [(.long q4), (.long q2), (.ref b1)])) t
      exact kt
    refine own_callVp X17 hx hZ hown e17 (hw _ (List.mem_of_getElem? (i := 33) rfl)) (hw _ (List.mem_of_getElem? (i := 34) rfl)) (notFace_of_selects (args := #[]) (mvT hZ (hw _ (List.mem_of_getElem? (i := 36) rfl)))) (hw _ (List.mem_of_getElem? (i := 36) rfl)) (hw _ (List.mem_of_getElem? (i := 35) rfl)) (hw _ (List.mem_of_getElem? (i := 3) rfl)) (hw _ (List.mem_of_getElem? (i := 37) rfl)) (by decide) (rm6 l Z aw hw b1 q2 q4 r2 nt fm nv T2.heap n0 ZKq2 F_r2 Ar_r2 hnv' hnt) Pq2_0 (g := (mkF m 125 #[.val (.int p0), .val (.int p1), .val (.long q2), .second, .val (.long q3), .second, .val (.long q4), .second, .val (.int kv), .val (.int nv), .val (.int jv), .val (.ref b1), .val (.long low), .second, .val (.long (0 : Int64)), .second, .val (.long dif), .second, .val (.long bv), .second, .val (.int r1), .val (.int (1 : Int32)), .unset, .unset, .unset, .unset] [(.long q4), (.long q2), (.ref b1)])) rfl (by rw [hml]; rfl) (argsL := [(.long q2), (.long q4)]) (rest := []) (lenOf pd_4 rfl) rfl rfl (W := 0) (by show 2 * 0 + _ ≤ _; exact Nat.le_of_eq rfl) (hb hby at_125) (by decide) (by decide) (by decide) (by decide) ?_
    intro T18 X18 e18
    obtain ⟨r2, hr2⟩ : ∃ z, z = (Int32.ofNat (own_scan fm (q2 ^^^ q4) nt 0)) := ⟨_, rfl⟩
    rw [← hr2]
    refine own_go (T' := T18) (f' := (mkF m 130 #[.val (.int p0), .val (.int p1), .val (.long q2), .second, .val (.long q3), .second, .val (.long q4), .second, .val (.int kv), .val (.int nv), .val (.int jv), .val (.ref b1), .val (.long low), .second, .val (.long (0 : Int64)), .second, .val (.long dif), .second, .val (.long bv), .second, .val (.int r1), .val (.int (1 : Int32)), .val (.int r2), .unset, .unset, .unset] [])) (fun t kt => ?_) ?_
    · show Steps p.tables e below (T18.setTop (mkF m 128 #[.val (.int p0), .val (.int p1), .val (.long q2), .second, .val (.long q3), .second, .val (.long q4), .second, .val (.int kv), .val (.int nv), .val (.int jv), .val (.ref b1), .val (.long low), .second, .val (.long (0 : Int64)), .second, .val (.long dif), .second, .val (.long bv), .second, .val (.int r1), .val (.int (1 : Int32)), .unset, .unset, .unset, .unset] [(.int r2)])) t
      refine XS.istore X18.here hx rfl (hb hby at_128) rfl (l' := #[.val (.int p0), .val (.int p1), .val (.long q2), .second, .val (.long q3), .second, .val (.long q4), .second, .val (.int kv), .val (.int nv), .val (.int jv), .val (.ref b1), .val (.long low), .second, .val (.long (0 : Int64)), .second, .val (.long dif), .second, .val (.long bv), .second, .val (.int r1), .val (.int (1 : Int32)), .val (.int r2), .unset, .unset, .unset]) rfl ?_
      show Steps p.tables e below (T18.setTop (mkF m 130 #[.val (.int p0), .val (.int p1), .val (.long q2), .second, .val (.long q3), .second, .val (.long q4), .second, .val (.int kv), .val (.int nv), .val (.int jv), .val (.ref b1), .val (.long low), .second, .val (.long (0 : Int64)), .second, .val (.long dif), .second, .val (.long bv), .second, .val (.int r1), .val (.int (1 : Int32)), .val (.int r2), .unset, .unset, .unset] [])) t
      exact kt
    obtain ⟨rt, hrt0⟩ : ∃ k : Nat, k = own_scan fm (q2 ^^^ q4) nt 0 := ⟨_, rfl⟩
    have hrs := own_scan_spec fm (q2 ^^^ q4) nt 0
    rw [← hrt0, Nat.zero_add] at hrs
    have hrt : r2.toInt = (rt : Int) := by rw [hr2, ← hrt0]; exact own_ofN (by omega)
    refine own_go (T' := T18) (f' := (mkF m 134 #[.val (.int p0), .val (.int p1), .val (.long q2), .second, .val (.long q3), .second, .val (.long q4), .second, .val (.int kv), .val (.int nv), .val (.int jv), .val (.ref b1), .val (.long low), .second, .val (.long (0 : Int64)), .second, .val (.long dif), .second, .val (.long bv), .second, .val (.int r1), .val (.int (1 : Int32)), .val (.int r2), .unset, .unset, .unset] [(.long (q2 ^^^ q4))])) (fun t kt => ?_) ?_
    · show Steps p.tables e below (T18.setTop (mkF m 130 #[.val (.int p0), .val (.int p1), .val (.long q2), .second, .val (.long q3), .second, .val (.long q4), .second, .val (.int kv), .val (.int nv), .val (.int jv), .val (.ref b1), .val (.long low), .second, .val (.long (0 : Int64)), .second, .val (.long dif), .second, .val (.long bv), .second, .val (.int r1), .val (.int (1 : Int32)), .val (.int r2), .unset, .unset, .unset] [])) t
      refine XS.lloadN X18.here hx rfl (hb hby at_130) rfl ?_
      show Steps p.tables e below (T18.setTop (mkF m 131 #[.val (.int p0), .val (.int p1), .val (.long q2), .second, .val (.long q3), .second, .val (.long q4), .second, .val (.int kv), .val (.int nv), .val (.int jv), .val (.ref b1), .val (.long low), .second, .val (.long (0 : Int64)), .second, .val (.long dif), .second, .val (.long bv), .second, .val (.int r1), .val (.int (1 : Int32)), .val (.int r2), .unset, .unset, .unset] [(.long q2)])) t
      refine XS.lload X18.here hx rfl (hb hby at_131) rfl ?_
      show Steps p.tables e below (T18.setTop (mkF m 133 #[.val (.int p0), .val (.int p1), .val (.long q2), .second, .val (.long q3), .second, .val (.long q4), .second, .val (.int kv), .val (.int nv), .val (.int jv), .val (.ref b1), .val (.long low), .second, .val (.long (0 : Int64)), .second, .val (.long dif), .second, .val (.long bv), .second, .val (.int r1), .val (.int (1 : Int32)), .val (.int r2), .unset, .unset, .unset] [(.long q4), (.long q2)])) t
      refine XS.lxor X18.here hx rfl (hb hby at_133) rfl ?_
      show Steps p.tables e below (T18.setTop (mkF m 134 #[.val (.int p0), .val (.int p1), .val (.long q2), .second, .val (.long q3), .second, .val (.long q4), .second, .val (.int kv), .val (.int nv), .val (.int jv), .val (.ref b1), .val (.long low), .second, .val (.long (0 : Int64)), .second, .val (.long dif), .second, .val (.long bv), .second, .val (.int r1), .val (.int (1 : Int32)), .val (.int r2), .unset, .unset, .unset] [(.long (q2 ^^^ q4))])) t
      exact kt
    obtain ⟨d2, hd2⟩ : ∃ z, z = (q2 ^^^ q4) := ⟨_, rfl⟩
    rw [← hd2]
    refine own_go (T' := T18) (f' := (mkF m 164 #[.val (.int p0), .val (.int p1), .val (.long q2), .second, .val (.long q3), .second, .val (.long q4), .second, .val (.int kv), .val (.int nv), .val (.int jv), .val (.ref b1), .val (.long low), .second, .val (.long (0 : Int64)), .second, .val (.long dif), .second, .val (.long bv), .second, .val (.int r1), .val (.int (1 : Int32)), .val (.int r2), .val (.long d2), .second, .val (.int (1 : Int32))] [(.int nv), (.int r2)])) (fun t kt => ?_) ?_
    · show Steps p.tables e below (T18.setTop (mkF m 134 #[.val (.int p0), .val (.int p1), .val (.long q2), .second, .val (.long q3), .second, .val (.long q4), .second, .val (.int kv), .val (.int nv), .val (.int jv), .val (.ref b1), .val (.long low), .second, .val (.long (0 : Int64)), .second, .val (.long dif), .second, .val (.long bv), .second, .val (.int r1), .val (.int (1 : Int32)), .val (.int r2), .unset, .unset, .unset] [(.long d2)])) t
      refine XS.lstore X18.here hx rfl (hb hby at_134) rfl (l' := #[.val (.int p0), .val (.int p1), .val (.long q2), .second, .val (.long q3), .second, .val (.long q4), .second, .val (.int kv), .val (.int nv), .val (.int jv), .val (.ref b1), .val (.long low), .second, .val (.long (0 : Int64)), .second, .val (.long dif), .second, .val (.long bv), .second, .val (.int r1), .val (.int (1 : Int32)), .val (.int r2), .val (.long d2), .second, .unset]) rfl ?_
      show Steps p.tables e below (T18.setTop (mkF m 136 #[.val (.int p0), .val (.int p1), .val (.long q2), .second, .val (.long q3), .second, .val (.long q4), .second, .val (.int kv), .val (.int nv), .val (.int jv), .val (.ref b1), .val (.long low), .second, .val (.long (0 : Int64)), .second, .val (.long dif), .second, .val (.long bv), .second, .val (.int r1), .val (.int (1 : Int32)), .val (.int r2), .val (.long d2), .second, .unset] [])) t
      refine XS.iload X18.here hx rfl (hb hby at_136) rfl ?_
      show Steps p.tables e below (T18.setTop (mkF m 138 #[.val (.int p0), .val (.int p1), .val (.long q2), .second, .val (.long q3), .second, .val (.long q4), .second, .val (.int kv), .val (.int nv), .val (.int jv), .val (.ref b1), .val (.long low), .second, .val (.long (0 : Int64)), .second, .val (.long dif), .second, .val (.long bv), .second, .val (.int r1), .val (.int (1 : Int32)), .val (.int r2), .val (.long d2), .second, .unset] [(.int r2)])) t
      refine XS.ifNo X18.here hx rfl (hb hby at_138) rfl ((if0 _ _).trans (flt (show ¬ (r2 < (0 : Int32)) from by rw [Int32.lt_iff_toInt_lt, hrt, show (0 : Int32).toInt = 0 from rfl]; omega)).1) ?_
      show Steps p.tables e below (T18.setTop (mkF m 141 #[.val (.int p0), .val (.int p1), .val (.long q2), .second, .val (.long q3), .second, .val (.long q4), .second, .val (.int kv), .val (.int nv), .val (.int jv), .val (.ref b1), .val (.long low), .second, .val (.long (0 : Int64)), .second, .val (.long dif), .second, .val (.long bv), .second, .val (.int r1), .val (.int (1 : Int32)), .val (.int r2), .val (.long d2), .second, .unset] [])) t
      refine XS.iload X18.here hx rfl (hb hby at_141) rfl ?_
      show Steps p.tables e below (T18.setTop (mkF m 143 #[.val (.int p0), .val (.int p1), .val (.long q2), .second, .val (.long q3), .second, .val (.long q4), .second, .val (.int kv), .val (.int nv), .val (.int jv), .val (.ref b1), .val (.long low), .second, .val (.long (0 : Int64)), .second, .val (.long dif), .second, .val (.long bv), .second, .val (.int r1), .val (.int (1 : Int32)), .val (.int r2), .val (.long d2), .second, .unset] [(.int r2)])) t
      refine XS.iload X18.here hx rfl (hb hby at_143) rfl ?_
      show Steps p.tables e below (T18.setTop (mkF m 145 #[.val (.int p0), .val (.int p1), .val (.long q2), .second, .val (.long q3), .second, .val (.long q4), .second, .val (.int kv), .val (.int nv), .val (.int jv), .val (.ref b1), .val (.long low), .second, .val (.long (0 : Int64)), .second, .val (.long dif), .second, .val (.long bv), .second, .val (.int r1), .val (.int (1 : Int32)), .val (.int r2), .val (.long d2), .second, .unset] [(.int nv), (.int r2)])) t
      refine XS.icmpNo X18.here hx rfl (hb hby at_145) rfl (flt (show ¬ (nv < r2) from by rw [Int32.lt_iff_toInt_lt, hrt, hnv']; omega)).2.2.1 ?_
      show Steps p.tables e below (T18.setTop (mkF m 148 #[.val (.int p0), .val (.int p1), .val (.long q2), .second, .val (.long q3), .second, .val (.long q4), .second, .val (.int kv), .val (.int nv), .val (.int jv), .val (.ref b1), .val (.long low), .second, .val (.long (0 : Int64)), .second, .val (.long dif), .second, .val (.long bv), .second, .val (.int r1), .val (.int (1 : Int32)), .val (.int r2), .val (.long d2), .second, .unset] [])) t
      refine XS.iconst X18.here hx rfl (hb hby at_148) ?_
      show Steps p.tables e below (T18.setTop (mkF m 149 #[.val (.int p0), .val (.int p1), .val (.long q2), .second, .val (.long q3), .second, .val (.long q4), .second, .val (.int kv), .val (.int nv), .val (.int jv), .val (.ref b1), .val (.long low), .second, .val (.long (0 : Int64)), .second, .val (.long dif), .second, .val (.long bv), .second, .val (.int r1), .val (.int (1 : Int32)), .val (.int r2), .val (.long d2), .second, .unset] [(.int (1 : Int32))])) t
      refine XS.goto X18.here hx rfl (pc0 := 149) (pc' := 153) rfl (hb hby at_149) (by decide) (by decide) ?_
      show Steps p.tables e below (T18.setTop (mkF m 153 #[.val (.int p0), .val (.int p1), .val (.long q2), .second, .val (.long q3), .second, .val (.long q4), .second, .val (.int kv), .val (.int nv), .val (.int jv), .val (.ref b1), .val (.long low), .second, .val (.long (0 : Int64)), .second, .val (.long dif), .second, .val (.long bv), .second, .val (.int r1), .val (.int (1 : Int32)), .val (.int r2), .val (.long d2), .second, .unset] [(.int (1 : Int32))])) t
      refine XS.istore X18.here hx rfl (hb hby at_153) rfl (l' := #[.val (.int p0), .val (.int p1), .val (.long q2), .second, .val (.long q3), .second, .val (.long q4), .second, .val (.int kv), .val (.int nv), .val (.int jv), .val (.ref b1), .val (.long low), .second, .val (.long (0 : Int64)), .second, .val (.long dif), .second, .val (.long bv), .second, .val (.int r1), .val (.int (1 : Int32)), .val (.int r2), .val (.long d2), .second, .val (.int (1 : Int32))]) rfl ?_
      show Steps p.tables e below (T18.setTop (mkF m 155 #[.val (.int p0), .val (.int p1), .val (.long q2), .second, .val (.long q3), .second, .val (.long q4), .second, .val (.int kv), .val (.int nv), .val (.int jv), .val (.ref b1), .val (.long low), .second, .val (.long (0 : Int64)), .second, .val (.long dif), .second, .val (.long bv), .second, .val (.int r1), .val (.int (1 : Int32)), .val (.int r2), .val (.long d2), .second, .val (.int (1 : Int32))] [])) t
      refine XS.iload X18.here hx rfl (hb hby at_155) rfl ?_
      show Steps p.tables e below (T18.setTop (mkF m 157 #[.val (.int p0), .val (.int p1), .val (.long q2), .second, .val (.long q3), .second, .val (.long q4), .second, .val (.int kv), .val (.int nv), .val (.int jv), .val (.ref b1), .val (.long low), .second, .val (.long (0 : Int64)), .second, .val (.long dif), .second, .val (.long bv), .second, .val (.int r1), .val (.int (1 : Int32)), .val (.int r2), .val (.long d2), .second, .val (.int (1 : Int32))] [(.int (1 : Int32))])) t
      refine XS.ifNo X18.here hx rfl (hb hby at_157) rfl (by decide) ?_
      show Steps p.tables e below (T18.setTop (mkF m 160 #[.val (.int p0), .val (.int p1), .val (.long q2), .second, .val (.long q3), .second, .val (.long q4), .second, .val (.int kv), .val (.int nv), .val (.int jv), .val (.ref b1), .val (.long low), .second, .val (.long (0 : Int64)), .second, .val (.long dif), .second, .val (.long bv), .second, .val (.int r1), .val (.int (1 : Int32)), .val (.int r2), .val (.long d2), .second, .val (.int (1 : Int32))] [])) t
      refine XS.iload X18.here hx rfl (hb hby at_160) rfl ?_
      show Steps p.tables e below (T18.setTop (mkF m 162 #[.val (.int p0), .val (.int p1), .val (.long q2), .second, .val (.long q3), .second, .val (.long q4), .second, .val (.int kv), .val (.int nv), .val (.int jv), .val (.ref b1), .val (.long low), .second, .val (.long (0 : Int64)), .second, .val (.long dif), .second, .val (.long bv), .second, .val (.int r1), .val (.int (1 : Int32)), .val (.int r2), .val (.long d2), .second, .val (.int (1 : Int32))] [(.int r2)])) t
      refine XS.iload X18.here hx rfl (hb hby at_162) rfl ?_
      show Steps p.tables e below (T18.setTop (mkF m 164 #[.val (.int p0), .val (.int p1), .val (.long q2), .second, .val (.long q3), .second, .val (.long q4), .second, .val (.int kv), .val (.int nv), .val (.int jv), .val (.ref b1), .val (.long low), .second, .val (.long (0 : Int64)), .second, .val (.long dif), .second, .val (.long bv), .second, .val (.int r1), .val (.int (1 : Int32)), .val (.int r2), .val (.long d2), .second, .val (.int (1 : Int32))] [(.int nv), (.int r2)])) t
      exact kt
    by_cases hc164_19 : r2 < nv
    · refine own_go (T' := T18) (f' := (mkF m 173 #[.val (.int p0), .val (.int p1), .val (.long q2), .second, .val (.long q3), .second, .val (.long q4), .second, .val (.int kv), .val (.int nv), .val (.int jv), .val (.ref b1), .val (.long low), .second, .val (.long (0 : Int64)), .second, .val (.long dif), .second, .val (.long bv), .second, .val (.int r1), .val (.int (1 : Int32)), .val (.int r2), .val (.long d2), .second, .val (.int (1 : Int32))] [(.int r2), (.int kv), (.long d2)])) (fun t kt => ?_) ?_
      · show Steps p.tables e below (T18.setTop (mkF m 164 #[.val (.int p0), .val (.int p1), .val (.long q2), .second, .val (.long q3), .second, .val (.long q4), .second, .val (.int kv), .val (.int nv), .val (.int jv), .val (.ref b1), .val (.long low), .second, .val (.long (0 : Int64)), .second, .val (.long dif), .second, .val (.long bv), .second, .val (.int r1), .val (.int (1 : Int32)), .val (.int r2), .val (.long d2), .second, .val (.int (1 : Int32))] [(.int nv), (.int r2)])) t
        refine XS.icmpNo X18.here hx rfl (hb hby at_164) rfl (tlt hc164_19).2.1 ?_
        show Steps p.tables e below (T18.setTop (mkF m 167 #[.val (.int p0), .val (.int p1), .val (.long q2), .second, .val (.long q3), .second, .val (.long q4), .second, .val (.int kv), .val (.int nv), .val (.int jv), .val (.ref b1), .val (.long low), .second, .val (.long (0 : Int64)), .second, .val (.long dif), .second, .val (.long bv), .second, .val (.int r1), .val (.int (1 : Int32)), .val (.int r2), .val (.long d2), .second, .val (.int (1 : Int32))] [])) t
        refine XS.lload X18.here hx rfl (hb hby at_167) rfl ?_
        show Steps p.tables e below (T18.setTop (mkF m 169 #[.val (.int p0), .val (.int p1), .val (.long q2), .second, .val (.long q3), .second, .val (.long q4), .second, .val (.int kv), .val (.int nv), .val (.int jv), .val (.ref b1), .val (.long low), .second, .val (.long (0 : Int64)), .second, .val (.long dif), .second, .val (.long bv), .second, .val (.int r1), .val (.int (1 : Int32)), .val (.int r2), .val (.long d2), .second, .val (.int (1 : Int32))] [(.long d2)])) t
        refine XS.iload X18.here hx rfl (hb hby at_169) rfl ?_
        show Steps p.tables e below (T18.setTop (mkF m 171 #[.val (.int p0), .val (.int p1), .val (.long q2), .second, .val (.long q3), .second, .val (.long q4), .second, .val (.int kv), .val (.int nv), .val (.int jv), .val (.ref b1), .val (.long low), .second, .val (.long (0 : Int64)), .second, .val (.long dif), .second, .val (.long bv), .second, .val (.int r1), .val (.int (1 : Int32)), .val (.int r2), .val (.long d2), .second, .val (.int (1 : Int32))] [(.int kv), (.long d2)])) t
        refine XS.iload X18.here hx rfl (hb hby at_171) rfl ?_
        show Steps p.tables e below (T18.setTop (mkF m 173 #[.val (.int p0), .val (.int p1), .val (.long q2), .second, .val (.long q3), .second, .val (.long q4), .second, .val (.int kv), .val (.int nv), .val (.int jv), .val (.ref b1), .val (.long low), .second, .val (.long (0 : Int64)), .second, .val (.long dif), .second, .val (.long bv), .second, .val (.int r1), .val (.int (1 : Int32)), .val (.int r2), .val (.long d2), .second, .val (.int (1 : Int32))] [(.int r2), (.int kv), (.long d2)])) t
        exact kt
      refine own_callSp X18 hx hZ hown e18 (hw _ (List.mem_of_getElem? (i := 38) rfl)) (hw _ (List.mem_of_getElem? (i := 39) rfl)) (hw _ (List.mem_of_getElem? (i := 23) rfl)) (hw _ (List.mem_of_getElem? (i := 40) rfl)) (by decide) (rm7 l Z aw hw kv r2 nt rt T2.heap n0 ZKq2 hzt h0t hnt hrt ((own_ltn hrt hnv').mp hc164_19)) (g := (mkF m 173 #[.val (.int p0), .val (.int p1), .val (.long q2), .second, .val (.long q3), .second, .val (.long q4), .second, .val (.int kv), .val (.int nv), .val (.int jv), .val (.ref b1), .val (.long low), .second, .val (.long (0 : Int64)), .second, .val (.long dif), .second, .val (.long bv), .second, .val (.int r1), .val (.int (1 : Int32)), .val (.int r2), .val (.long d2), .second, .val (.int (1 : Int32))] [(.int r2), (.int kv), (.long d2)])) rfl (by rw [hml]; rfl) (argsL := [(.int kv), (.int r2)]) (rest := [(.long d2)]) (lenOf pd_3 rfl) rfl rfl (W := 2) (by show 2 * 0 + _ ≤ _; exact Nat.le_of_eq rfl) (hb hby at_173) (by decide) (by decide) (by decide) (by decide) ?_
      intro T20 X20 e20
      refine own_go (T' := T20) (f' := (mkF m 196 #[.val (.int p0), .val (.int p1), .val (.long q2), .second, .val (.long q3), .second, .val (.long q4), .second, .val (.int kv), .val (.int nv), .val (.int jv), .val (.ref b1), .val (.long low), .second, .val (.long (0 : Int64)), .second, .val (.long dif), .second, .val (.long bv), .second, .val (.int r1), .val (.int (1 : Int32)), .val (.int r2), .val (.long d2), .second, .val (.int (1 : Int32))] [(.int r2)])) (fun t kt => ?_) ?_
      · show Steps p.tables e below (T20.setTop (mkF m 176 #[.val (.int p0), .val (.int p1), .val (.long q2), .second, .val (.long q3), .second, .val (.long q4), .second, .val (.int kv), .val (.int nv), .val (.int jv), .val (.ref b1), .val (.long low), .second, .val (.long (0 : Int64)), .second, .val (.long dif), .second, .val (.long bv), .second, .val (.int r1), .val (.int (1 : Int32)), .val (.int r2), .val (.long d2), .second, .val (.int (1 : Int32))] [(.long (own_mkv (Int32.ofNat (own_st nt rt)) ((Int32.ofNat (own_st nt (rt + 1))) - (Int32.ofNat (own_st nt rt))))), (.long d2)])) t
        refine XS.land X20.here hx rfl (hb hby at_176) rfl ?_
        show Steps p.tables e below (T20.setTop (mkF m 177 #[.val (.int p0), .val (.int p1), .val (.long q2), .second, .val (.long q3), .second, .val (.long q4), .second, .val (.int kv), .val (.int nv), .val (.int jv), .val (.ref b1), .val (.long low), .second, .val (.long (0 : Int64)), .second, .val (.long dif), .second, .val (.long bv), .second, .val (.int r1), .val (.int (1 : Int32)), .val (.int r2), .val (.long d2), .second, .val (.int (1 : Int32))] [(.long (d2 &&& (own_mkv (Int32.ofNat (own_st nt rt)) ((Int32.ofNat (own_st nt (rt + 1))) - (Int32.ofNat (own_st nt rt))))))])) t
        refine XS.lconst X20.here hx rfl (hb hby at_177) ?_
        show Steps p.tables e below (T20.setTop (mkF m 178 #[.val (.int p0), .val (.int p1), .val (.long q2), .second, .val (.long q3), .second, .val (.long q4), .second, .val (.int kv), .val (.int nv), .val (.int jv), .val (.ref b1), .val (.long low), .second, .val (.long (0 : Int64)), .second, .val (.long dif), .second, .val (.long bv), .second, .val (.int r1), .val (.int (1 : Int32)), .val (.int r2), .val (.long d2), .second, .val (.int (1 : Int32))] [(.long (0 : Int64)), (.long (d2 &&& (own_mkv (Int32.ofNat (own_st nt rt)) ((Int32.ofNat (own_st nt (rt + 1))) - (Int32.ofNat (own_st nt rt))))))])) t
        refine XS.lcmp X20.here hx rfl (hb hby at_178) rfl ?_
        show Steps p.tables e below (T20.setTop (mkF m 179 #[.val (.int p0), .val (.int p1), .val (.long q2), .second, .val (.long q3), .second, .val (.long q4), .second, .val (.int kv), .val (.int nv), .val (.int jv), .val (.ref b1), .val (.long low), .second, .val (.long (0 : Int64)), .second, .val (.long dif), .second, .val (.long bv), .second, .val (.int r1), .val (.int (1 : Int32)), .val (.int r2), .val (.long d2), .second, .val (.int (1 : Int32))] [(.int (lcmpW (d2 &&& (own_mkv (Int32.ofNat (own_st nt rt)) ((Int32.ofNat (own_st nt (rt + 1))) - (Int32.ofNat (own_st nt rt))))) (0 : Int64)))])) t
        refine XS.ifNo X20.here hx rfl (hb hby at_179) rfl (own_lN_ne (show (d2 &&& (own_mkv (Int32.ofNat (own_st nt rt)) ((Int32.ofNat (own_st nt (rt + 1))) - (Int32.ofNat (own_st nt rt))))) = (0 : Int64) from by have q := (own_ltn hrt hnv').mp hc164_19; rw [← own_isM_eq (hfm rt q) (own_mkM h0t hnt q), hd2]; exact hrs.2.2.2 q)) ?_
        show Steps p.tables e below (T20.setTop (mkF m 182 #[.val (.int p0), .val (.int p1), .val (.long q2), .second, .val (.long q3), .second, .val (.long q4), .second, .val (.int kv), .val (.int nv), .val (.int jv), .val (.ref b1), .val (.long low), .second, .val (.long (0 : Int64)), .second, .val (.long dif), .second, .val (.long bv), .second, .val (.int r1), .val (.int (1 : Int32)), .val (.int r2), .val (.long d2), .second, .val (.int (1 : Int32))] [])) t
        refine XS.iconst X20.here hx rfl (hb hby at_182) ?_
        show Steps p.tables e below (T20.setTop (mkF m 183 #[.val (.int p0), .val (.int p1), .val (.long q2), .second, .val (.long q3), .second, .val (.long q4), .second, .val (.int kv), .val (.int nv), .val (.int jv), .val (.ref b1), .val (.long low), .second, .val (.long (0 : Int64)), .second, .val (.long dif), .second, .val (.long bv), .second, .val (.int r1), .val (.int (1 : Int32)), .val (.int r2), .val (.long d2), .second, .val (.int (1 : Int32))] [(.int (1 : Int32))])) t
        refine XS.goto X20.here hx rfl (pc0 := 183) (pc' := 187) rfl (hb hby at_183) (by decide) (by decide) ?_
        show Steps p.tables e below (T20.setTop (mkF m 187 #[.val (.int p0), .val (.int p1), .val (.long q2), .second, .val (.long q3), .second, .val (.long q4), .second, .val (.int kv), .val (.int nv), .val (.int jv), .val (.ref b1), .val (.long low), .second, .val (.long (0 : Int64)), .second, .val (.long dif), .second, .val (.long bv), .second, .val (.int r1), .val (.int (1 : Int32)), .val (.int r2), .val (.long d2), .second, .val (.int (1 : Int32))] [(.int (1 : Int32))])) t
        refine XS.istore X20.here hx rfl (hb hby at_187) rfl (l' := #[.val (.int p0), .val (.int p1), .val (.long q2), .second, .val (.long q3), .second, .val (.long q4), .second, .val (.int kv), .val (.int nv), .val (.int jv), .val (.ref b1), .val (.long low), .second, .val (.long (0 : Int64)), .second, .val (.long dif), .second, .val (.long bv), .second, .val (.int r1), .val (.int (1 : Int32)), .val (.int r2), .val (.long d2), .second, .val (.int (1 : Int32))]) rfl ?_
        show Steps p.tables e below (T20.setTop (mkF m 189 #[.val (.int p0), .val (.int p1), .val (.long q2), .second, .val (.long q3), .second, .val (.long q4), .second, .val (.int kv), .val (.int nv), .val (.int jv), .val (.ref b1), .val (.long low), .second, .val (.long (0 : Int64)), .second, .val (.long dif), .second, .val (.long bv), .second, .val (.int r1), .val (.int (1 : Int32)), .val (.int r2), .val (.long d2), .second, .val (.int (1 : Int32))] [])) t
        refine XS.iload X20.here hx rfl (hb hby at_189) rfl ?_
        show Steps p.tables e below (T20.setTop (mkF m 191 #[.val (.int p0), .val (.int p1), .val (.long q2), .second, .val (.long q3), .second, .val (.long q4), .second, .val (.int kv), .val (.int nv), .val (.int jv), .val (.ref b1), .val (.long low), .second, .val (.long (0 : Int64)), .second, .val (.long dif), .second, .val (.long bv), .second, .val (.int r1), .val (.int (1 : Int32)), .val (.int r2), .val (.long d2), .second, .val (.int (1 : Int32))] [(.int (1 : Int32))])) t
        refine XS.ifNo X20.here hx rfl (hb hby at_191) rfl (by decide) ?_
        show Steps p.tables e below (T20.setTop (mkF m 194 #[.val (.int p0), .val (.int p1), .val (.long q2), .second, .val (.long q3), .second, .val (.long q4), .second, .val (.int kv), .val (.int nv), .val (.int jv), .val (.ref b1), .val (.long low), .second, .val (.long (0 : Int64)), .second, .val (.long dif), .second, .val (.long bv), .second, .val (.int r1), .val (.int (1 : Int32)), .val (.int r2), .val (.long d2), .second, .val (.int (1 : Int32))] [])) t
        refine XS.iload X20.here hx rfl (hb hby at_194) rfl ?_
        show Steps p.tables e below (T20.setTop (mkF m 196 #[.val (.int p0), .val (.int p1), .val (.long q2), .second, .val (.long q3), .second, .val (.long q4), .second, .val (.int kv), .val (.int nv), .val (.int jv), .val (.ref b1), .val (.long low), .second, .val (.long (0 : Int64)), .second, .val (.long dif), .second, .val (.long bv), .second, .val (.int r1), .val (.int (1 : Int32)), .val (.int r2), .val (.long d2), .second, .val (.int (1 : Int32))] [(.int r2)])) t
        exact kt
      by_cases hc196_21 : (0 : Int32) < r2
      · refine own_go (T' := T20) (f' := (mkF m 207 #[.val (.int p0), .val (.int p1), .val (.long q2), .second, .val (.long q3), .second, .val (.long q4), .second, .val (.int kv), .val (.int nv), .val (.int jv), .val (.ref b1), .val (.long low), .second, .val (.long (0 : Int64)), .second, .val (.long dif), .second, .val (.long bv), .second, .val (.int r1), .val (.int (1 : Int32)), .val (.int r2), .val (.long d2), .second, .val (.int (1 : Int32))] [(.int (r2 - (1 : Int32))), (.int kv), (.long d2)])) (fun t kt => ?_) ?_
        · show Steps p.tables e below (T20.setTop (mkF m 196 #[.val (.int p0), .val (.int p1), .val (.long q2), .second, .val (.long q3), .second, .val (.long q4), .second, .val (.int kv), .val (.int nv), .val (.int jv), .val (.ref b1), .val (.long low), .second, .val (.long (0 : Int64)), .second, .val (.long dif), .second, .val (.long bv), .second, .val (.int r1), .val (.int (1 : Int32)), .val (.int r2), .val (.long d2), .second, .val (.int (1 : Int32))] [(.int r2)])) t
          refine XS.ifNo X20.here hx rfl (hb hby at_196) rfl ((if0 _ _).trans (tlt hc196_21).2.2.2) ?_
          show Steps p.tables e below (T20.setTop (mkF m 199 #[.val (.int p0), .val (.int p1), .val (.long q2), .second, .val (.long q3), .second, .val (.long q4), .second, .val (.int kv), .val (.int nv), .val (.int jv), .val (.ref b1), .val (.long low), .second, .val (.long (0 : Int64)), .second, .val (.long dif), .second, .val (.long bv), .second, .val (.int r1), .val (.int (1 : Int32)), .val (.int r2), .val (.long d2), .second, .val (.int (1 : Int32))] [])) t
          refine XS.lload X20.here hx rfl (hb hby at_199) rfl ?_
          show Steps p.tables e below (T20.setTop (mkF m 201 #[.val (.int p0), .val (.int p1), .val (.long q2), .second, .val (.long q3), .second, .val (.long q4), .second, .val (.int kv), .val (.int nv), .val (.int jv), .val (.ref b1), .val (.long low), .second, .val (.long (0 : Int64)), .second, .val (.long dif), .second, .val (.long bv), .second, .val (.int r1), .val (.int (1 : Int32)), .val (.int r2), .val (.long d2), .second, .val (.int (1 : Int32))] [(.long d2)])) t
          refine XS.iload X20.here hx rfl (hb hby at_201) rfl ?_
          show Steps p.tables e below (T20.setTop (mkF m 203 #[.val (.int p0), .val (.int p1), .val (.long q2), .second, .val (.long q3), .second, .val (.long q4), .second, .val (.int kv), .val (.int nv), .val (.int jv), .val (.ref b1), .val (.long low), .second, .val (.long (0 : Int64)), .second, .val (.long dif), .second, .val (.long bv), .second, .val (.int r1), .val (.int (1 : Int32)), .val (.int r2), .val (.long d2), .second, .val (.int (1 : Int32))] [(.int kv), (.long d2)])) t
          refine XS.iload X20.here hx rfl (hb hby at_203) rfl ?_
          show Steps p.tables e below (T20.setTop (mkF m 205 #[.val (.int p0), .val (.int p1), .val (.long q2), .second, .val (.long q3), .second, .val (.long q4), .second, .val (.int kv), .val (.int nv), .val (.int jv), .val (.ref b1), .val (.long low), .second, .val (.long (0 : Int64)), .second, .val (.long dif), .second, .val (.long bv), .second, .val (.int r1), .val (.int (1 : Int32)), .val (.int r2), .val (.long d2), .second, .val (.int (1 : Int32))] [(.int r2), (.int kv), (.long d2)])) t
          refine XS.iconst X20.here hx rfl (hb hby at_205) ?_
          show Steps p.tables e below (T20.setTop (mkF m 206 #[.val (.int p0), .val (.int p1), .val (.long q2), .second, .val (.long q3), .second, .val (.long q4), .second, .val (.int kv), .val (.int nv), .val (.int jv), .val (.ref b1), .val (.long low), .second, .val (.long (0 : Int64)), .second, .val (.long dif), .second, .val (.long bv), .second, .val (.int r1), .val (.int (1 : Int32)), .val (.int r2), .val (.long d2), .second, .val (.int (1 : Int32))] [(.int (1 : Int32)), (.int r2), (.int kv), (.long d2)])) t
          refine XS.isub X20.here hx rfl (hb hby at_206) rfl ?_
          show Steps p.tables e below (T20.setTop (mkF m 207 #[.val (.int p0), .val (.int p1), .val (.long q2), .second, .val (.long q3), .second, .val (.long q4), .second, .val (.int kv), .val (.int nv), .val (.int jv), .val (.ref b1), .val (.long low), .second, .val (.long (0 : Int64)), .second, .val (.long dif), .second, .val (.long bv), .second, .val (.int r1), .val (.int (1 : Int32)), .val (.int r2), .val (.long d2), .second, .val (.int (1 : Int32))] [(.int (r2 - (1 : Int32))), (.int kv), (.long d2)])) t
          exact kt
        refine own_callSp X20 hx hZ hown e20 (hw _ (List.mem_of_getElem? (i := 38) rfl)) (hw _ (List.mem_of_getElem? (i := 39) rfl)) (hw _ (List.mem_of_getElem? (i := 23) rfl)) (hw _ (List.mem_of_getElem? (i := 40) rfl)) (by decide) (rm7 l Z aw hw kv (r2 - (1 : Int32)) nt (rt - 1) T2.heap n0 ZKq2 hzt h0t hnt (own_dec hrt hc196_21) (by have := (own_pos hrt).mp hc196_21; omega)) (g := (mkF m 207 #[.val (.int p0), .val (.int p1), .val (.long q2), .second, .val (.long q3), .second, .val (.long q4), .second, .val (.int kv), .val (.int nv), .val (.int jv), .val (.ref b1), .val (.long low), .second, .val (.long (0 : Int64)), .second, .val (.long dif), .second, .val (.long bv), .second, .val (.int r1), .val (.int (1 : Int32)), .val (.int r2), .val (.long d2), .second, .val (.int (1 : Int32))] [(.int (r2 - (1 : Int32))), (.int kv), (.long d2)])) rfl (by rw [hml]; rfl) (argsL := [(.int kv), (.int (r2 - (1 : Int32)))]) (rest := [(.long d2)]) (lenOf pd_3 rfl) rfl rfl (W := 2) (by show 2 * 0 + _ ≤ _; exact Nat.le_of_eq rfl) (hb hby at_207) (by decide) (by decide) (by decide) (by decide) ?_
        intro T22 X22 e22
        refine own_go (T' := T22) (f' := (mkF m 221 #[.val (.int p0), .val (.int p1), .val (.long q2), .second, .val (.long q3), .second, .val (.long q4), .second, .val (.int kv), .val (.int nv), .val (.int jv), .val (.ref b1), .val (.long low), .second, .val (.long (0 : Int64)), .second, .val (.long dif), .second, .val (.long bv), .second, .val (.int r1), .val (.int (1 : Int32)), .val (.int r2), .val (.long d2), .second, .val (.int (1 : Int32))] [(.int (0 : Int32)), (.int kv), (.long d2)])) (fun t kt => ?_) ?_
        · show Steps p.tables e below (T22.setTop (mkF m 210 #[.val (.int p0), .val (.int p1), .val (.long q2), .second, .val (.long q3), .second, .val (.long q4), .second, .val (.int kv), .val (.int nv), .val (.int jv), .val (.ref b1), .val (.long low), .second, .val (.long (0 : Int64)), .second, .val (.long dif), .second, .val (.long bv), .second, .val (.int r1), .val (.int (1 : Int32)), .val (.int r2), .val (.long d2), .second, .val (.int (1 : Int32))] [(.long (own_mkv (Int32.ofNat (own_st nt (rt - 1))) ((Int32.ofNat (own_st nt ((rt - 1) + 1))) - (Int32.ofNat (own_st nt (rt - 1)))))), (.long d2)])) t
          refine XS.land X22.here hx rfl (hb hby at_210) rfl ?_
          show Steps p.tables e below (T22.setTop (mkF m 211 #[.val (.int p0), .val (.int p1), .val (.long q2), .second, .val (.long q3), .second, .val (.long q4), .second, .val (.int kv), .val (.int nv), .val (.int jv), .val (.ref b1), .val (.long low), .second, .val (.long (0 : Int64)), .second, .val (.long dif), .second, .val (.long bv), .second, .val (.int r1), .val (.int (1 : Int32)), .val (.int r2), .val (.long d2), .second, .val (.int (1 : Int32))] [(.long (d2 &&& (own_mkv (Int32.ofNat (own_st nt (rt - 1))) ((Int32.ofNat (own_st nt ((rt - 1) + 1))) - (Int32.ofNat (own_st nt (rt - 1)))))))])) t
          refine XS.lconst X22.here hx rfl (hb hby at_211) ?_
          show Steps p.tables e below (T22.setTop (mkF m 212 #[.val (.int p0), .val (.int p1), .val (.long q2), .second, .val (.long q3), .second, .val (.long q4), .second, .val (.int kv), .val (.int nv), .val (.int jv), .val (.ref b1), .val (.long low), .second, .val (.long (0 : Int64)), .second, .val (.long dif), .second, .val (.long bv), .second, .val (.int r1), .val (.int (1 : Int32)), .val (.int r2), .val (.long d2), .second, .val (.int (1 : Int32))] [(.long (0 : Int64)), (.long (d2 &&& (own_mkv (Int32.ofNat (own_st nt (rt - 1))) ((Int32.ofNat (own_st nt ((rt - 1) + 1))) - (Int32.ofNat (own_st nt (rt - 1)))))))])) t
          refine XS.lcmp X22.here hx rfl (hb hby at_212) rfl ?_
          show Steps p.tables e below (T22.setTop (mkF m 213 #[.val (.int p0), .val (.int p1), .val (.long q2), .second, .val (.long q3), .second, .val (.long q4), .second, .val (.int kv), .val (.int nv), .val (.int jv), .val (.ref b1), .val (.long low), .second, .val (.long (0 : Int64)), .second, .val (.long dif), .second, .val (.long bv), .second, .val (.int r1), .val (.int (1 : Int32)), .val (.int r2), .val (.long d2), .second, .val (.int (1 : Int32))] [(.int (lcmpW (d2 &&& (own_mkv (Int32.ofNat (own_st nt (rt - 1))) ((Int32.ofNat (own_st nt ((rt - 1) + 1))) - (Int32.ofNat (own_st nt (rt - 1)))))) (0 : Int64)))])) t
          refine XS.ifNo X22.here hx rfl (hb hby at_213) rfl (own_lN_eq (show ¬ ((d2 &&& (own_mkv (Int32.ofNat (own_st nt (rt - 1))) ((Int32.ofNat (own_st nt ((rt - 1) + 1))) - (Int32.ofNat (own_st nt (rt - 1)))))) = (0 : Int64)) from by have q := (own_pos hrt).mp hc196_21; have e : rt - 1 < nt := (by omega); rw [← own_isM_eq (hfm (rt - 1) e) (own_mkM h0t hnt e), hd2]; exact hrs.2.2.1 (rt - 1) (Nat.zero_le _) (by omega))) ?_
          show Steps p.tables e below (T22.setTop (mkF m 216 #[.val (.int p0), .val (.int p1), .val (.long q2), .second, .val (.long q3), .second, .val (.long q4), .second, .val (.int kv), .val (.int nv), .val (.int jv), .val (.ref b1), .val (.long low), .second, .val (.long (0 : Int64)), .second, .val (.long dif), .second, .val (.long bv), .second, .val (.int r1), .val (.int (1 : Int32)), .val (.int r2), .val (.long d2), .second, .val (.int (1 : Int32))] [])) t
          refine XS.lload X22.here hx rfl (hb hby at_216) rfl ?_
          show Steps p.tables e below (T22.setTop (mkF m 218 #[.val (.int p0), .val (.int p1), .val (.long q2), .second, .val (.long q3), .second, .val (.long q4), .second, .val (.int kv), .val (.int nv), .val (.int jv), .val (.ref b1), .val (.long low), .second, .val (.long (0 : Int64)), .second, .val (.long dif), .second, .val (.long bv), .second, .val (.int r1), .val (.int (1 : Int32)), .val (.int r2), .val (.long d2), .second, .val (.int (1 : Int32))] [(.long d2)])) t
          refine XS.iload X22.here hx rfl (hb hby at_218) rfl ?_
          show Steps p.tables e below (T22.setTop (mkF m 220 #[.val (.int p0), .val (.int p1), .val (.long q2), .second, .val (.long q3), .second, .val (.long q4), .second, .val (.int kv), .val (.int nv), .val (.int jv), .val (.ref b1), .val (.long low), .second, .val (.long (0 : Int64)), .second, .val (.long dif), .second, .val (.long bv), .second, .val (.int r1), .val (.int (1 : Int32)), .val (.int r2), .val (.long d2), .second, .val (.int (1 : Int32))] [(.int kv), (.long d2)])) t
          refine XS.iconst X22.here hx rfl (hb hby at_220) ?_
          show Steps p.tables e below (T22.setTop (mkF m 221 #[.val (.int p0), .val (.int p1), .val (.long q2), .second, .val (.long q3), .second, .val (.long q4), .second, .val (.int kv), .val (.int nv), .val (.int jv), .val (.ref b1), .val (.long low), .second, .val (.long (0 : Int64)), .second, .val (.long dif), .second, .val (.long bv), .second, .val (.int r1), .val (.int (1 : Int32)), .val (.int r2), .val (.long d2), .second, .val (.int (1 : Int32))] [(.int (0 : Int32)), (.int kv), (.long d2)])) t
          exact kt
        refine own_callSp X22 hx hZ hown e22 (hw _ (List.mem_of_getElem? (i := 38) rfl)) (hw _ (List.mem_of_getElem? (i := 39) rfl)) (hw _ (List.mem_of_getElem? (i := 23) rfl)) (hw _ (List.mem_of_getElem? (i := 40) rfl)) (by decide) (rm7 l Z aw hw kv (0 : Int32) nt 0 T2.heap n0 ZKq2 hzt h0t hnt rfl h0t) (g := (mkF m 221 #[.val (.int p0), .val (.int p1), .val (.long q2), .second, .val (.long q3), .second, .val (.long q4), .second, .val (.int kv), .val (.int nv), .val (.int jv), .val (.ref b1), .val (.long low), .second, .val (.long (0 : Int64)), .second, .val (.long dif), .second, .val (.long bv), .second, .val (.int r1), .val (.int (1 : Int32)), .val (.int r2), .val (.long d2), .second, .val (.int (1 : Int32))] [(.int (0 : Int32)), (.int kv), (.long d2)])) rfl (by rw [hml]; rfl) (argsL := [(.int kv), (.int (0 : Int32))]) (rest := [(.long d2)]) (lenOf pd_3 rfl) rfl rfl (W := 2) (by show 2 * 0 + _ ≤ _; exact Nat.le_of_eq rfl) (hb hby at_221) (by decide) (by decide) (by decide) (by decide) ?_
        intro T23 X23 e23
        refine own_go (T' := T23) (f' := (mkF m 252 #[.val (.int p0), .val (.int p1), .val (.long q2), .second, .val (.long q3), .second, .val (.long q4), .second, .val (.int kv), .val (.int nv), .val (.int jv), .val (.ref b1), .val (.long low), .second, .val (.long (0 : Int64)), .second, .val (.long dif), .second, .val (.long bv), .second, .val (.int r1), .val (.int (1 : Int32)), .val (.int r2), .val (.long d2), .second, .val (.int (1 : Int32))] [(.int (1 : Int32))])) (fun t kt => ?_) ?_
        · show Steps p.tables e below (T23.setTop (mkF m 224 #[.val (.int p0), .val (.int p1), .val (.long q2), .second, .val (.long q3), .second, .val (.long q4), .second, .val (.int kv), .val (.int nv), .val (.int jv), .val (.ref b1), .val (.long low), .second, .val (.long (0 : Int64)), .second, .val (.long dif), .second, .val (.long bv), .second, .val (.int r1), .val (.int (1 : Int32)), .val (.int r2), .val (.long d2), .second, .val (.int (1 : Int32))] [(.long (own_mkv (Int32.ofNat (own_st nt 0)) ((Int32.ofNat (own_st nt (0 + 1))) - (Int32.ofNat (own_st nt 0))))), (.long d2)])) t
          refine XS.land X23.here hx rfl (hb hby at_224) rfl ?_
          show Steps p.tables e below (T23.setTop (mkF m 225 #[.val (.int p0), .val (.int p1), .val (.long q2), .second, .val (.long q3), .second, .val (.long q4), .second, .val (.int kv), .val (.int nv), .val (.int jv), .val (.ref b1), .val (.long low), .second, .val (.long (0 : Int64)), .second, .val (.long dif), .second, .val (.long bv), .second, .val (.int r1), .val (.int (1 : Int32)), .val (.int r2), .val (.long d2), .second, .val (.int (1 : Int32))] [(.long (d2 &&& (own_mkv (Int32.ofNat (own_st nt 0)) ((Int32.ofNat (own_st nt (0 + 1))) - (Int32.ofNat (own_st nt 0))))))])) t
          refine XS.lconst X23.here hx rfl (hb hby at_225) ?_
          show Steps p.tables e below (T23.setTop (mkF m 226 #[.val (.int p0), .val (.int p1), .val (.long q2), .second, .val (.long q3), .second, .val (.long q4), .second, .val (.int kv), .val (.int nv), .val (.int jv), .val (.ref b1), .val (.long low), .second, .val (.long (0 : Int64)), .second, .val (.long dif), .second, .val (.long bv), .second, .val (.int r1), .val (.int (1 : Int32)), .val (.int r2), .val (.long d2), .second, .val (.int (1 : Int32))] [(.long (0 : Int64)), (.long (d2 &&& (own_mkv (Int32.ofNat (own_st nt 0)) ((Int32.ofNat (own_st nt (0 + 1))) - (Int32.ofNat (own_st nt 0))))))])) t
          refine XS.lcmp X23.here hx rfl (hb hby at_226) rfl ?_
          show Steps p.tables e below (T23.setTop (mkF m 227 #[.val (.int p0), .val (.int p1), .val (.long q2), .second, .val (.long q3), .second, .val (.long q4), .second, .val (.int kv), .val (.int nv), .val (.int jv), .val (.ref b1), .val (.long low), .second, .val (.long (0 : Int64)), .second, .val (.long dif), .second, .val (.long bv), .second, .val (.int r1), .val (.int (1 : Int32)), .val (.int r2), .val (.long d2), .second, .val (.int (1 : Int32))] [(.int (lcmpW (d2 &&& (own_mkv (Int32.ofNat (own_st nt 0)) ((Int32.ofNat (own_st nt (0 + 1))) - (Int32.ofNat (own_st nt 0))))) (0 : Int64)))])) t
          refine XS.ifNo X23.here hx rfl (hb hby at_227) rfl (own_lN_eq (show ¬ ((d2 &&& (own_mkv (Int32.ofNat (own_st nt 0)) ((Int32.ofNat (own_st nt (0 + 1))) - (Int32.ofNat (own_st nt 0))))) = (0 : Int64)) from by have q := (own_pos hrt).mp hc196_21; rw [← own_isM_eq (hfm 0 h0t) (own_mkM h0t hnt h0t), hd2]; exact hrs.2.2.1 0 (Nat.zero_le _) q)) ?_
          show Steps p.tables e below (T23.setTop (mkF m 230 #[.val (.int p0), .val (.int p1), .val (.long q2), .second, .val (.long q3), .second, .val (.long q4), .second, .val (.int kv), .val (.int nv), .val (.int jv), .val (.ref b1), .val (.long low), .second, .val (.long (0 : Int64)), .second, .val (.long dif), .second, .val (.long bv), .second, .val (.int r1), .val (.int (1 : Int32)), .val (.int r2), .val (.long d2), .second, .val (.int (1 : Int32))] [])) t
          refine XS.iconst X23.here hx rfl (hb hby at_230) ?_
          show Steps p.tables e below (T23.setTop (mkF m 231 #[.val (.int p0), .val (.int p1), .val (.long q2), .second, .val (.long q3), .second, .val (.long q4), .second, .val (.int kv), .val (.int nv), .val (.int jv), .val (.ref b1), .val (.long low), .second, .val (.long (0 : Int64)), .second, .val (.long dif), .second, .val (.long bv), .second, .val (.int r1), .val (.int (1 : Int32)), .val (.int r2), .val (.long d2), .second, .val (.int (1 : Int32))] [(.int (1 : Int32))])) t
          refine XS.goto X23.here hx rfl (pc0 := 231) (pc' := 235) rfl (hb hby at_231) (by decide) (by decide) ?_
          show Steps p.tables e below (T23.setTop (mkF m 235 #[.val (.int p0), .val (.int p1), .val (.long q2), .second, .val (.long q3), .second, .val (.long q4), .second, .val (.int kv), .val (.int nv), .val (.int jv), .val (.ref b1), .val (.long low), .second, .val (.long (0 : Int64)), .second, .val (.long dif), .second, .val (.long bv), .second, .val (.int r1), .val (.int (1 : Int32)), .val (.int r2), .val (.long d2), .second, .val (.int (1 : Int32))] [(.int (1 : Int32))])) t
          refine XS.istore X23.here hx rfl (hb hby at_235) rfl (l' := #[.val (.int p0), .val (.int p1), .val (.long q2), .second, .val (.long q3), .second, .val (.long q4), .second, .val (.int kv), .val (.int nv), .val (.int jv), .val (.ref b1), .val (.long low), .second, .val (.long (0 : Int64)), .second, .val (.long dif), .second, .val (.long bv), .second, .val (.int r1), .val (.int (1 : Int32)), .val (.int r2), .val (.long d2), .second, .val (.int (1 : Int32))]) rfl ?_
          show Steps p.tables e below (T23.setTop (mkF m 237 #[.val (.int p0), .val (.int p1), .val (.long q2), .second, .val (.long q3), .second, .val (.long q4), .second, .val (.int kv), .val (.int nv), .val (.int jv), .val (.ref b1), .val (.long low), .second, .val (.long (0 : Int64)), .second, .val (.long dif), .second, .val (.long bv), .second, .val (.int r1), .val (.int (1 : Int32)), .val (.int r2), .val (.long d2), .second, .val (.int (1 : Int32))] [])) t
          refine XS.iload X23.here hx rfl (hb hby at_237) rfl ?_
          show Steps p.tables e below (T23.setTop (mkF m 239 #[.val (.int p0), .val (.int p1), .val (.long q2), .second, .val (.long q3), .second, .val (.long q4), .second, .val (.int kv), .val (.int nv), .val (.int jv), .val (.ref b1), .val (.long low), .second, .val (.long (0 : Int64)), .second, .val (.long dif), .second, .val (.long bv), .second, .val (.int r1), .val (.int (1 : Int32)), .val (.int r2), .val (.long d2), .second, .val (.int (1 : Int32))] [(.int (1 : Int32))])) t
          refine XS.ifNo X23.here hx rfl (hb hby at_239) rfl (by decide) ?_
          show Steps p.tables e below (T23.setTop (mkF m 242 #[.val (.int p0), .val (.int p1), .val (.long q2), .second, .val (.long q3), .second, .val (.long q4), .second, .val (.int kv), .val (.int nv), .val (.int jv), .val (.ref b1), .val (.long low), .second, .val (.long (0 : Int64)), .second, .val (.long dif), .second, .val (.long bv), .second, .val (.int r1), .val (.int (1 : Int32)), .val (.int r2), .val (.long d2), .second, .val (.int (1 : Int32))] [])) t
          refine XS.iload X23.here hx rfl (hb hby at_242) rfl ?_
          show Steps p.tables e below (T23.setTop (mkF m 244 #[.val (.int p0), .val (.int p1), .val (.long q2), .second, .val (.long q3), .second, .val (.long q4), .second, .val (.int kv), .val (.int nv), .val (.int jv), .val (.ref b1), .val (.long low), .second, .val (.long (0 : Int64)), .second, .val (.long dif), .second, .val (.long bv), .second, .val (.int r1), .val (.int (1 : Int32)), .val (.int r2), .val (.long d2), .second, .val (.int (1 : Int32))] [(.int (1 : Int32))])) t
          refine XS.ifNo X23.here hx rfl (hb hby at_244) rfl (by decide) ?_
          show Steps p.tables e below (T23.setTop (mkF m 247 #[.val (.int p0), .val (.int p1), .val (.long q2), .second, .val (.long q3), .second, .val (.long q4), .second, .val (.int kv), .val (.int nv), .val (.int jv), .val (.ref b1), .val (.long low), .second, .val (.long (0 : Int64)), .second, .val (.long dif), .second, .val (.long bv), .second, .val (.int r1), .val (.int (1 : Int32)), .val (.int r2), .val (.long d2), .second, .val (.int (1 : Int32))] [])) t
          refine XS.iconst X23.here hx rfl (hb hby at_247) ?_
          show Steps p.tables e below (T23.setTop (mkF m 248 #[.val (.int p0), .val (.int p1), .val (.long q2), .second, .val (.long q3), .second, .val (.long q4), .second, .val (.int kv), .val (.int nv), .val (.int jv), .val (.ref b1), .val (.long low), .second, .val (.long (0 : Int64)), .second, .val (.long dif), .second, .val (.long bv), .second, .val (.int r1), .val (.int (1 : Int32)), .val (.int r2), .val (.long d2), .second, .val (.int (1 : Int32))] [(.int (1 : Int32))])) t
          refine XS.goto X23.here hx rfl (pc0 := 248) (pc' := 252) rfl (hb hby at_248) (by decide) (by decide) ?_
          show Steps p.tables e below (T23.setTop (mkF m 252 #[.val (.int p0), .val (.int p1), .val (.long q2), .second, .val (.long q3), .second, .val (.long q4), .second, .val (.int kv), .val (.int nv), .val (.int jv), .val (.ref b1), .val (.long low), .second, .val (.long (0 : Int64)), .second, .val (.long dif), .second, .val (.long bv), .second, .val (.int r1), .val (.int (1 : Int32)), .val (.int r2), .val (.long d2), .second, .val (.int (1 : Int32))] [(.int (1 : Int32))])) t
          exact kt
        exact own_retN X23 hP hx hlk e23 (t := .boolean) hret (by simp) (hb hby at_252) (by decide) (by decide) (z' := (1 : Int32)) rfl ⟨rfl, N2⟩
      · refine own_go (T' := T20) (f' := (mkF m 252 #[.val (.int p0), .val (.int p1), .val (.long q2), .second, .val (.long q3), .second, .val (.long q4), .second, .val (.int kv), .val (.int nv), .val (.int jv), .val (.ref b1), .val (.long low), .second, .val (.long (0 : Int64)), .second, .val (.long dif), .second, .val (.long bv), .second, .val (.int r1), .val (.int (1 : Int32)), .val (.int r2), .val (.long d2), .second, .val (.int (1 : Int32))] [(.int (1 : Int32))])) (fun t kt => ?_) ?_
        · show Steps p.tables e below (T20.setTop (mkF m 196 #[.val (.int p0), .val (.int p1), .val (.long q2), .second, .val (.long q3), .second, .val (.long q4), .second, .val (.int kv), .val (.int nv), .val (.int jv), .val (.ref b1), .val (.long low), .second, .val (.long (0 : Int64)), .second, .val (.long dif), .second, .val (.long bv), .second, .val (.int r1), .val (.int (1 : Int32)), .val (.int r2), .val (.long d2), .second, .val (.int (1 : Int32))] [(.int r2)])) t
          refine XS.ifYes X20.here hx rfl (pc0 := 196) (pc' := 237) rfl (hb hby at_196) rfl ((if0 _ _).trans (flt hc196_21).2.2.2) (by decide) (by decide) ?_
          show Steps p.tables e below (T20.setTop (mkF m 237 #[.val (.int p0), .val (.int p1), .val (.long q2), .second, .val (.long q3), .second, .val (.long q4), .second, .val (.int kv), .val (.int nv), .val (.int jv), .val (.ref b1), .val (.long low), .second, .val (.long (0 : Int64)), .second, .val (.long dif), .second, .val (.long bv), .second, .val (.int r1), .val (.int (1 : Int32)), .val (.int r2), .val (.long d2), .second, .val (.int (1 : Int32))] [])) t
          refine XS.iload X20.here hx rfl (hb hby at_237) rfl ?_
          show Steps p.tables e below (T20.setTop (mkF m 239 #[.val (.int p0), .val (.int p1), .val (.long q2), .second, .val (.long q3), .second, .val (.long q4), .second, .val (.int kv), .val (.int nv), .val (.int jv), .val (.ref b1), .val (.long low), .second, .val (.long (0 : Int64)), .second, .val (.long dif), .second, .val (.long bv), .second, .val (.int r1), .val (.int (1 : Int32)), .val (.int r2), .val (.long d2), .second, .val (.int (1 : Int32))] [(.int (1 : Int32))])) t
          refine XS.ifNo X20.here hx rfl (hb hby at_239) rfl (by decide) ?_
          show Steps p.tables e below (T20.setTop (mkF m 242 #[.val (.int p0), .val (.int p1), .val (.long q2), .second, .val (.long q3), .second, .val (.long q4), .second, .val (.int kv), .val (.int nv), .val (.int jv), .val (.ref b1), .val (.long low), .second, .val (.long (0 : Int64)), .second, .val (.long dif), .second, .val (.long bv), .second, .val (.int r1), .val (.int (1 : Int32)), .val (.int r2), .val (.long d2), .second, .val (.int (1 : Int32))] [])) t
          refine XS.iload X20.here hx rfl (hb hby at_242) rfl ?_
          show Steps p.tables e below (T20.setTop (mkF m 244 #[.val (.int p0), .val (.int p1), .val (.long q2), .second, .val (.long q3), .second, .val (.long q4), .second, .val (.int kv), .val (.int nv), .val (.int jv), .val (.ref b1), .val (.long low), .second, .val (.long (0 : Int64)), .second, .val (.long dif), .second, .val (.long bv), .second, .val (.int r1), .val (.int (1 : Int32)), .val (.int r2), .val (.long d2), .second, .val (.int (1 : Int32))] [(.int (1 : Int32))])) t
          refine XS.ifNo X20.here hx rfl (hb hby at_244) rfl (by decide) ?_
          show Steps p.tables e below (T20.setTop (mkF m 247 #[.val (.int p0), .val (.int p1), .val (.long q2), .second, .val (.long q3), .second, .val (.long q4), .second, .val (.int kv), .val (.int nv), .val (.int jv), .val (.ref b1), .val (.long low), .second, .val (.long (0 : Int64)), .second, .val (.long dif), .second, .val (.long bv), .second, .val (.int r1), .val (.int (1 : Int32)), .val (.int r2), .val (.long d2), .second, .val (.int (1 : Int32))] [])) t
          refine XS.iconst X20.here hx rfl (hb hby at_247) ?_
          show Steps p.tables e below (T20.setTop (mkF m 248 #[.val (.int p0), .val (.int p1), .val (.long q2), .second, .val (.long q3), .second, .val (.long q4), .second, .val (.int kv), .val (.int nv), .val (.int jv), .val (.ref b1), .val (.long low), .second, .val (.long (0 : Int64)), .second, .val (.long dif), .second, .val (.long bv), .second, .val (.int r1), .val (.int (1 : Int32)), .val (.int r2), .val (.long d2), .second, .val (.int (1 : Int32))] [(.int (1 : Int32))])) t
          refine XS.goto X20.here hx rfl (pc0 := 248) (pc' := 252) rfl (hb hby at_248) (by decide) (by decide) ?_
          show Steps p.tables e below (T20.setTop (mkF m 252 #[.val (.int p0), .val (.int p1), .val (.long q2), .second, .val (.long q3), .second, .val (.long q4), .second, .val (.int kv), .val (.int nv), .val (.int jv), .val (.ref b1), .val (.long low), .second, .val (.long (0 : Int64)), .second, .val (.long dif), .second, .val (.long bv), .second, .val (.int r1), .val (.int (1 : Int32)), .val (.int r2), .val (.long d2), .second, .val (.int (1 : Int32))] [(.int (1 : Int32))])) t
          exact kt
        exact own_retN X20 hP hx hlk e20 (t := .boolean) hret (by simp) (hb hby at_252) (by decide) (by decide) (z' := (1 : Int32)) rfl ⟨rfl, N2⟩
    · refine own_go (T' := T18) (f' := (mkF m 196 #[.val (.int p0), .val (.int p1), .val (.long q2), .second, .val (.long q3), .second, .val (.long q4), .second, .val (.int kv), .val (.int nv), .val (.int jv), .val (.ref b1), .val (.long low), .second, .val (.long (0 : Int64)), .second, .val (.long dif), .second, .val (.long bv), .second, .val (.int r1), .val (.int (1 : Int32)), .val (.int r2), .val (.long d2), .second, .val (.int (1 : Int32))] [(.int r2)])) (fun t kt => ?_) ?_
      · show Steps p.tables e below (T18.setTop (mkF m 164 #[.val (.int p0), .val (.int p1), .val (.long q2), .second, .val (.long q3), .second, .val (.long q4), .second, .val (.int kv), .val (.int nv), .val (.int jv), .val (.ref b1), .val (.long low), .second, .val (.long (0 : Int64)), .second, .val (.long dif), .second, .val (.long bv), .second, .val (.int r1), .val (.int (1 : Int32)), .val (.int r2), .val (.long d2), .second, .val (.int (1 : Int32))] [(.int nv), (.int r2)])) t
        refine XS.icmpYes X18.here hx rfl (pc0 := 164) (pc' := 189) rfl (hb hby at_164) rfl (flt hc164_19).2.1 (by decide) (by decide) ?_
        show Steps p.tables e below (T18.setTop (mkF m 189 #[.val (.int p0), .val (.int p1), .val (.long q2), .second, .val (.long q3), .second, .val (.long q4), .second, .val (.int kv), .val (.int nv), .val (.int jv), .val (.ref b1), .val (.long low), .second, .val (.long (0 : Int64)), .second, .val (.long dif), .second, .val (.long bv), .second, .val (.int r1), .val (.int (1 : Int32)), .val (.int r2), .val (.long d2), .second, .val (.int (1 : Int32))] [])) t
        refine XS.iload X18.here hx rfl (hb hby at_189) rfl ?_
        show Steps p.tables e below (T18.setTop (mkF m 191 #[.val (.int p0), .val (.int p1), .val (.long q2), .second, .val (.long q3), .second, .val (.long q4), .second, .val (.int kv), .val (.int nv), .val (.int jv), .val (.ref b1), .val (.long low), .second, .val (.long (0 : Int64)), .second, .val (.long dif), .second, .val (.long bv), .second, .val (.int r1), .val (.int (1 : Int32)), .val (.int r2), .val (.long d2), .second, .val (.int (1 : Int32))] [(.int (1 : Int32))])) t
        refine XS.ifNo X18.here hx rfl (hb hby at_191) rfl (by decide) ?_
        show Steps p.tables e below (T18.setTop (mkF m 194 #[.val (.int p0), .val (.int p1), .val (.long q2), .second, .val (.long q3), .second, .val (.long q4), .second, .val (.int kv), .val (.int nv), .val (.int jv), .val (.ref b1), .val (.long low), .second, .val (.long (0 : Int64)), .second, .val (.long dif), .second, .val (.long bv), .second, .val (.int r1), .val (.int (1 : Int32)), .val (.int r2), .val (.long d2), .second, .val (.int (1 : Int32))] [])) t
        refine XS.iload X18.here hx rfl (hb hby at_194) rfl ?_
        show Steps p.tables e below (T18.setTop (mkF m 196 #[.val (.int p0), .val (.int p1), .val (.long q2), .second, .val (.long q3), .second, .val (.long q4), .second, .val (.int kv), .val (.int nv), .val (.int jv), .val (.ref b1), .val (.long low), .second, .val (.long (0 : Int64)), .second, .val (.long dif), .second, .val (.long bv), .second, .val (.int r1), .val (.int (1 : Int32)), .val (.int r2), .val (.long d2), .second, .val (.int (1 : Int32))] [(.int r2)])) t
        exact kt
      by_cases hc196_24 : (0 : Int32) < r2
      · refine own_go (T' := T18) (f' := (mkF m 207 #[.val (.int p0), .val (.int p1), .val (.long q2), .second, .val (.long q3), .second, .val (.long q4), .second, .val (.int kv), .val (.int nv), .val (.int jv), .val (.ref b1), .val (.long low), .second, .val (.long (0 : Int64)), .second, .val (.long dif), .second, .val (.long bv), .second, .val (.int r1), .val (.int (1 : Int32)), .val (.int r2), .val (.long d2), .second, .val (.int (1 : Int32))] [(.int (r2 - (1 : Int32))), (.int kv), (.long d2)])) (fun t kt => ?_) ?_
        · show Steps p.tables e below (T18.setTop (mkF m 196 #[.val (.int p0), .val (.int p1), .val (.long q2), .second, .val (.long q3), .second, .val (.long q4), .second, .val (.int kv), .val (.int nv), .val (.int jv), .val (.ref b1), .val (.long low), .second, .val (.long (0 : Int64)), .second, .val (.long dif), .second, .val (.long bv), .second, .val (.int r1), .val (.int (1 : Int32)), .val (.int r2), .val (.long d2), .second, .val (.int (1 : Int32))] [(.int r2)])) t
          refine XS.ifNo X18.here hx rfl (hb hby at_196) rfl ((if0 _ _).trans (tlt hc196_24).2.2.2) ?_
          show Steps p.tables e below (T18.setTop (mkF m 199 #[.val (.int p0), .val (.int p1), .val (.long q2), .second, .val (.long q3), .second, .val (.long q4), .second, .val (.int kv), .val (.int nv), .val (.int jv), .val (.ref b1), .val (.long low), .second, .val (.long (0 : Int64)), .second, .val (.long dif), .second, .val (.long bv), .second, .val (.int r1), .val (.int (1 : Int32)), .val (.int r2), .val (.long d2), .second, .val (.int (1 : Int32))] [])) t
          refine XS.lload X18.here hx rfl (hb hby at_199) rfl ?_
          show Steps p.tables e below (T18.setTop (mkF m 201 #[.val (.int p0), .val (.int p1), .val (.long q2), .second, .val (.long q3), .second, .val (.long q4), .second, .val (.int kv), .val (.int nv), .val (.int jv), .val (.ref b1), .val (.long low), .second, .val (.long (0 : Int64)), .second, .val (.long dif), .second, .val (.long bv), .second, .val (.int r1), .val (.int (1 : Int32)), .val (.int r2), .val (.long d2), .second, .val (.int (1 : Int32))] [(.long d2)])) t
          refine XS.iload X18.here hx rfl (hb hby at_201) rfl ?_
          show Steps p.tables e below (T18.setTop (mkF m 203 #[.val (.int p0), .val (.int p1), .val (.long q2), .second, .val (.long q3), .second, .val (.long q4), .second, .val (.int kv), .val (.int nv), .val (.int jv), .val (.ref b1), .val (.long low), .second, .val (.long (0 : Int64)), .second, .val (.long dif), .second, .val (.long bv), .second, .val (.int r1), .val (.int (1 : Int32)), .val (.int r2), .val (.long d2), .second, .val (.int (1 : Int32))] [(.int kv), (.long d2)])) t
          refine XS.iload X18.here hx rfl (hb hby at_203) rfl ?_
          show Steps p.tables e below (T18.setTop (mkF m 205 #[.val (.int p0), .val (.int p1), .val (.long q2), .second, .val (.long q3), .second, .val (.long q4), .second, .val (.int kv), .val (.int nv), .val (.int jv), .val (.ref b1), .val (.long low), .second, .val (.long (0 : Int64)), .second, .val (.long dif), .second, .val (.long bv), .second, .val (.int r1), .val (.int (1 : Int32)), .val (.int r2), .val (.long d2), .second, .val (.int (1 : Int32))] [(.int r2), (.int kv), (.long d2)])) t
          refine XS.iconst X18.here hx rfl (hb hby at_205) ?_
          show Steps p.tables e below (T18.setTop (mkF m 206 #[.val (.int p0), .val (.int p1), .val (.long q2), .second, .val (.long q3), .second, .val (.long q4), .second, .val (.int kv), .val (.int nv), .val (.int jv), .val (.ref b1), .val (.long low), .second, .val (.long (0 : Int64)), .second, .val (.long dif), .second, .val (.long bv), .second, .val (.int r1), .val (.int (1 : Int32)), .val (.int r2), .val (.long d2), .second, .val (.int (1 : Int32))] [(.int (1 : Int32)), (.int r2), (.int kv), (.long d2)])) t
          refine XS.isub X18.here hx rfl (hb hby at_206) rfl ?_
          show Steps p.tables e below (T18.setTop (mkF m 207 #[.val (.int p0), .val (.int p1), .val (.long q2), .second, .val (.long q3), .second, .val (.long q4), .second, .val (.int kv), .val (.int nv), .val (.int jv), .val (.ref b1), .val (.long low), .second, .val (.long (0 : Int64)), .second, .val (.long dif), .second, .val (.long bv), .second, .val (.int r1), .val (.int (1 : Int32)), .val (.int r2), .val (.long d2), .second, .val (.int (1 : Int32))] [(.int (r2 - (1 : Int32))), (.int kv), (.long d2)])) t
          exact kt
        refine own_callSp X18 hx hZ hown e18 (hw _ (List.mem_of_getElem? (i := 38) rfl)) (hw _ (List.mem_of_getElem? (i := 39) rfl)) (hw _ (List.mem_of_getElem? (i := 23) rfl)) (hw _ (List.mem_of_getElem? (i := 40) rfl)) (by decide) (rm7 l Z aw hw kv (r2 - (1 : Int32)) nt (rt - 1) T2.heap n0 ZKq2 hzt h0t hnt (own_dec hrt hc196_24) (by have := (own_pos hrt).mp hc196_24; omega)) (g := (mkF m 207 #[.val (.int p0), .val (.int p1), .val (.long q2), .second, .val (.long q3), .second, .val (.long q4), .second, .val (.int kv), .val (.int nv), .val (.int jv), .val (.ref b1), .val (.long low), .second, .val (.long (0 : Int64)), .second, .val (.long dif), .second, .val (.long bv), .second, .val (.int r1), .val (.int (1 : Int32)), .val (.int r2), .val (.long d2), .second, .val (.int (1 : Int32))] [(.int (r2 - (1 : Int32))), (.int kv), (.long d2)])) rfl (by rw [hml]; rfl) (argsL := [(.int kv), (.int (r2 - (1 : Int32)))]) (rest := [(.long d2)]) (lenOf pd_3 rfl) rfl rfl (W := 2) (by show 2 * 0 + _ ≤ _; exact Nat.le_of_eq rfl) (hb hby at_207) (by decide) (by decide) (by decide) (by decide) ?_
        intro T25 X25 e25
        refine own_go (T' := T25) (f' := (mkF m 221 #[.val (.int p0), .val (.int p1), .val (.long q2), .second, .val (.long q3), .second, .val (.long q4), .second, .val (.int kv), .val (.int nv), .val (.int jv), .val (.ref b1), .val (.long low), .second, .val (.long (0 : Int64)), .second, .val (.long dif), .second, .val (.long bv), .second, .val (.int r1), .val (.int (1 : Int32)), .val (.int r2), .val (.long d2), .second, .val (.int (1 : Int32))] [(.int (0 : Int32)), (.int kv), (.long d2)])) (fun t kt => ?_) ?_
        · show Steps p.tables e below (T25.setTop (mkF m 210 #[.val (.int p0), .val (.int p1), .val (.long q2), .second, .val (.long q3), .second, .val (.long q4), .second, .val (.int kv), .val (.int nv), .val (.int jv), .val (.ref b1), .val (.long low), .second, .val (.long (0 : Int64)), .second, .val (.long dif), .second, .val (.long bv), .second, .val (.int r1), .val (.int (1 : Int32)), .val (.int r2), .val (.long d2), .second, .val (.int (1 : Int32))] [(.long (own_mkv (Int32.ofNat (own_st nt (rt - 1))) ((Int32.ofNat (own_st nt ((rt - 1) + 1))) - (Int32.ofNat (own_st nt (rt - 1)))))), (.long d2)])) t
          refine XS.land X25.here hx rfl (hb hby at_210) rfl ?_
          show Steps p.tables e below (T25.setTop (mkF m 211 #[.val (.int p0), .val (.int p1), .val (.long q2), .second, .val (.long q3), .second, .val (.long q4), .second, .val (.int kv), .val (.int nv), .val (.int jv), .val (.ref b1), .val (.long low), .second, .val (.long (0 : Int64)), .second, .val (.long dif), .second, .val (.long bv), .second, .val (.int r1), .val (.int (1 : Int32)), .val (.int r2), .val (.long d2), .second, .val (.int (1 : Int32))] [(.long (d2 &&& (own_mkv (Int32.ofNat (own_st nt (rt - 1))) ((Int32.ofNat (own_st nt ((rt - 1) + 1))) - (Int32.ofNat (own_st nt (rt - 1)))))))])) t
          refine XS.lconst X25.here hx rfl (hb hby at_211) ?_
          show Steps p.tables e below (T25.setTop (mkF m 212 #[.val (.int p0), .val (.int p1), .val (.long q2), .second, .val (.long q3), .second, .val (.long q4), .second, .val (.int kv), .val (.int nv), .val (.int jv), .val (.ref b1), .val (.long low), .second, .val (.long (0 : Int64)), .second, .val (.long dif), .second, .val (.long bv), .second, .val (.int r1), .val (.int (1 : Int32)), .val (.int r2), .val (.long d2), .second, .val (.int (1 : Int32))] [(.long (0 : Int64)), (.long (d2 &&& (own_mkv (Int32.ofNat (own_st nt (rt - 1))) ((Int32.ofNat (own_st nt ((rt - 1) + 1))) - (Int32.ofNat (own_st nt (rt - 1)))))))])) t
          refine XS.lcmp X25.here hx rfl (hb hby at_212) rfl ?_
          show Steps p.tables e below (T25.setTop (mkF m 213 #[.val (.int p0), .val (.int p1), .val (.long q2), .second, .val (.long q3), .second, .val (.long q4), .second, .val (.int kv), .val (.int nv), .val (.int jv), .val (.ref b1), .val (.long low), .second, .val (.long (0 : Int64)), .second, .val (.long dif), .second, .val (.long bv), .second, .val (.int r1), .val (.int (1 : Int32)), .val (.int r2), .val (.long d2), .second, .val (.int (1 : Int32))] [(.int (lcmpW (d2 &&& (own_mkv (Int32.ofNat (own_st nt (rt - 1))) ((Int32.ofNat (own_st nt ((rt - 1) + 1))) - (Int32.ofNat (own_st nt (rt - 1)))))) (0 : Int64)))])) t
          refine XS.ifNo X25.here hx rfl (hb hby at_213) rfl (own_lN_eq (show ¬ ((d2 &&& (own_mkv (Int32.ofNat (own_st nt (rt - 1))) ((Int32.ofNat (own_st nt ((rt - 1) + 1))) - (Int32.ofNat (own_st nt (rt - 1)))))) = (0 : Int64)) from by have q := (own_pos hrt).mp hc196_24; have e : rt - 1 < nt := (by omega); rw [← own_isM_eq (hfm (rt - 1) e) (own_mkM h0t hnt e), hd2]; exact hrs.2.2.1 (rt - 1) (Nat.zero_le _) (by omega))) ?_
          show Steps p.tables e below (T25.setTop (mkF m 216 #[.val (.int p0), .val (.int p1), .val (.long q2), .second, .val (.long q3), .second, .val (.long q4), .second, .val (.int kv), .val (.int nv), .val (.int jv), .val (.ref b1), .val (.long low), .second, .val (.long (0 : Int64)), .second, .val (.long dif), .second, .val (.long bv), .second, .val (.int r1), .val (.int (1 : Int32)), .val (.int r2), .val (.long d2), .second, .val (.int (1 : Int32))] [])) t
          refine XS.lload X25.here hx rfl (hb hby at_216) rfl ?_
          show Steps p.tables e below (T25.setTop (mkF m 218 #[.val (.int p0), .val (.int p1), .val (.long q2), .second, .val (.long q3), .second, .val (.long q4), .second, .val (.int kv), .val (.int nv), .val (.int jv), .val (.ref b1), .val (.long low), .second, .val (.long (0 : Int64)), .second, .val (.long dif), .second, .val (.long bv), .second, .val (.int r1), .val (.int (1 : Int32)), .val (.int r2), .val (.long d2), .second, .val (.int (1 : Int32))] [(.long d2)])) t
          refine XS.iload X25.here hx rfl (hb hby at_218) rfl ?_
          show Steps p.tables e below (T25.setTop (mkF m 220 #[.val (.int p0), .val (.int p1), .val (.long q2), .second, .val (.long q3), .second, .val (.long q4), .second, .val (.int kv), .val (.int nv), .val (.int jv), .val (.ref b1), .val (.long low), .second, .val (.long (0 : Int64)), .second, .val (.long dif), .second, .val (.long bv), .second, .val (.int r1), .val (.int (1 : Int32)), .val (.int r2), .val (.long d2), .second, .val (.int (1 : Int32))] [(.int kv), (.long d2)])) t
          refine XS.iconst X25.here hx rfl (hb hby at_220) ?_
          show Steps p.tables e below (T25.setTop (mkF m 221 #[.val (.int p0), .val (.int p1), .val (.long q2), .second, .val (.long q3), .second, .val (.long q4), .second, .val (.int kv), .val (.int nv), .val (.int jv), .val (.ref b1), .val (.long low), .second, .val (.long (0 : Int64)), .second, .val (.long dif), .second, .val (.long bv), .second, .val (.int r1), .val (.int (1 : Int32)), .val (.int r2), .val (.long d2), .second, .val (.int (1 : Int32))] [(.int (0 : Int32)), (.int kv), (.long d2)])) t
          exact kt
        refine own_callSp X25 hx hZ hown e25 (hw _ (List.mem_of_getElem? (i := 38) rfl)) (hw _ (List.mem_of_getElem? (i := 39) rfl)) (hw _ (List.mem_of_getElem? (i := 23) rfl)) (hw _ (List.mem_of_getElem? (i := 40) rfl)) (by decide) (rm7 l Z aw hw kv (0 : Int32) nt 0 T2.heap n0 ZKq2 hzt h0t hnt rfl h0t) (g := (mkF m 221 #[.val (.int p0), .val (.int p1), .val (.long q2), .second, .val (.long q3), .second, .val (.long q4), .second, .val (.int kv), .val (.int nv), .val (.int jv), .val (.ref b1), .val (.long low), .second, .val (.long (0 : Int64)), .second, .val (.long dif), .second, .val (.long bv), .second, .val (.int r1), .val (.int (1 : Int32)), .val (.int r2), .val (.long d2), .second, .val (.int (1 : Int32))] [(.int (0 : Int32)), (.int kv), (.long d2)])) rfl (by rw [hml]; rfl) (argsL := [(.int kv), (.int (0 : Int32))]) (rest := [(.long d2)]) (lenOf pd_3 rfl) rfl rfl (W := 2) (by show 2 * 0 + _ ≤ _; exact Nat.le_of_eq rfl) (hb hby at_221) (by decide) (by decide) (by decide) (by decide) ?_
        intro T26 X26 e26
        refine own_go (T' := T26) (f' := (mkF m 252 #[.val (.int p0), .val (.int p1), .val (.long q2), .second, .val (.long q3), .second, .val (.long q4), .second, .val (.int kv), .val (.int nv), .val (.int jv), .val (.ref b1), .val (.long low), .second, .val (.long (0 : Int64)), .second, .val (.long dif), .second, .val (.long bv), .second, .val (.int r1), .val (.int (1 : Int32)), .val (.int r2), .val (.long d2), .second, .val (.int (1 : Int32))] [(.int (1 : Int32))])) (fun t kt => ?_) ?_
        · show Steps p.tables e below (T26.setTop (mkF m 224 #[.val (.int p0), .val (.int p1), .val (.long q2), .second, .val (.long q3), .second, .val (.long q4), .second, .val (.int kv), .val (.int nv), .val (.int jv), .val (.ref b1), .val (.long low), .second, .val (.long (0 : Int64)), .second, .val (.long dif), .second, .val (.long bv), .second, .val (.int r1), .val (.int (1 : Int32)), .val (.int r2), .val (.long d2), .second, .val (.int (1 : Int32))] [(.long (own_mkv (Int32.ofNat (own_st nt 0)) ((Int32.ofNat (own_st nt (0 + 1))) - (Int32.ofNat (own_st nt 0))))), (.long d2)])) t
          refine XS.land X26.here hx rfl (hb hby at_224) rfl ?_
          show Steps p.tables e below (T26.setTop (mkF m 225 #[.val (.int p0), .val (.int p1), .val (.long q2), .second, .val (.long q3), .second, .val (.long q4), .second, .val (.int kv), .val (.int nv), .val (.int jv), .val (.ref b1), .val (.long low), .second, .val (.long (0 : Int64)), .second, .val (.long dif), .second, .val (.long bv), .second, .val (.int r1), .val (.int (1 : Int32)), .val (.int r2), .val (.long d2), .second, .val (.int (1 : Int32))] [(.long (d2 &&& (own_mkv (Int32.ofNat (own_st nt 0)) ((Int32.ofNat (own_st nt (0 + 1))) - (Int32.ofNat (own_st nt 0))))))])) t
          refine XS.lconst X26.here hx rfl (hb hby at_225) ?_
          show Steps p.tables e below (T26.setTop (mkF m 226 #[.val (.int p0), .val (.int p1), .val (.long q2), .second, .val (.long q3), .second, .val (.long q4), .second, .val (.int kv), .val (.int nv), .val (.int jv), .val (.ref b1), .val (.long low), .second, .val (.long (0 : Int64)), .second, .val (.long dif), .second, .val (.long bv), .second, .val (.int r1), .val (.int (1 : Int32)), .val (.int r2), .val (.long d2), .second, .val (.int (1 : Int32))] [(.long (0 : Int64)), (.long (d2 &&& (own_mkv (Int32.ofNat (own_st nt 0)) ((Int32.ofNat (own_st nt (0 + 1))) - (Int32.ofNat (own_st nt 0))))))])) t
          refine XS.lcmp X26.here hx rfl (hb hby at_226) rfl ?_
          show Steps p.tables e below (T26.setTop (mkF m 227 #[.val (.int p0), .val (.int p1), .val (.long q2), .second, .val (.long q3), .second, .val (.long q4), .second, .val (.int kv), .val (.int nv), .val (.int jv), .val (.ref b1), .val (.long low), .second, .val (.long (0 : Int64)), .second, .val (.long dif), .second, .val (.long bv), .second, .val (.int r1), .val (.int (1 : Int32)), .val (.int r2), .val (.long d2), .second, .val (.int (1 : Int32))] [(.int (lcmpW (d2 &&& (own_mkv (Int32.ofNat (own_st nt 0)) ((Int32.ofNat (own_st nt (0 + 1))) - (Int32.ofNat (own_st nt 0))))) (0 : Int64)))])) t
          refine XS.ifNo X26.here hx rfl (hb hby at_227) rfl (own_lN_eq (show ¬ ((d2 &&& (own_mkv (Int32.ofNat (own_st nt 0)) ((Int32.ofNat (own_st nt (0 + 1))) - (Int32.ofNat (own_st nt 0))))) = (0 : Int64)) from by have q := (own_pos hrt).mp hc196_24; rw [← own_isM_eq (hfm 0 h0t) (own_mkM h0t hnt h0t), hd2]; exact hrs.2.2.1 0 (Nat.zero_le _) q)) ?_
          show Steps p.tables e below (T26.setTop (mkF m 230 #[.val (.int p0), .val (.int p1), .val (.long q2), .second, .val (.long q3), .second, .val (.long q4), .second, .val (.int kv), .val (.int nv), .val (.int jv), .val (.ref b1), .val (.long low), .second, .val (.long (0 : Int64)), .second, .val (.long dif), .second, .val (.long bv), .second, .val (.int r1), .val (.int (1 : Int32)), .val (.int r2), .val (.long d2), .second, .val (.int (1 : Int32))] [])) t
          refine XS.iconst X26.here hx rfl (hb hby at_230) ?_
          show Steps p.tables e below (T26.setTop (mkF m 231 #[.val (.int p0), .val (.int p1), .val (.long q2), .second, .val (.long q3), .second, .val (.long q4), .second, .val (.int kv), .val (.int nv), .val (.int jv), .val (.ref b1), .val (.long low), .second, .val (.long (0 : Int64)), .second, .val (.long dif), .second, .val (.long bv), .second, .val (.int r1), .val (.int (1 : Int32)), .val (.int r2), .val (.long d2), .second, .val (.int (1 : Int32))] [(.int (1 : Int32))])) t
          refine XS.goto X26.here hx rfl (pc0 := 231) (pc' := 235) rfl (hb hby at_231) (by decide) (by decide) ?_
          show Steps p.tables e below (T26.setTop (mkF m 235 #[.val (.int p0), .val (.int p1), .val (.long q2), .second, .val (.long q3), .second, .val (.long q4), .second, .val (.int kv), .val (.int nv), .val (.int jv), .val (.ref b1), .val (.long low), .second, .val (.long (0 : Int64)), .second, .val (.long dif), .second, .val (.long bv), .second, .val (.int r1), .val (.int (1 : Int32)), .val (.int r2), .val (.long d2), .second, .val (.int (1 : Int32))] [(.int (1 : Int32))])) t
          refine XS.istore X26.here hx rfl (hb hby at_235) rfl (l' := #[.val (.int p0), .val (.int p1), .val (.long q2), .second, .val (.long q3), .second, .val (.long q4), .second, .val (.int kv), .val (.int nv), .val (.int jv), .val (.ref b1), .val (.long low), .second, .val (.long (0 : Int64)), .second, .val (.long dif), .second, .val (.long bv), .second, .val (.int r1), .val (.int (1 : Int32)), .val (.int r2), .val (.long d2), .second, .val (.int (1 : Int32))]) rfl ?_
          show Steps p.tables e below (T26.setTop (mkF m 237 #[.val (.int p0), .val (.int p1), .val (.long q2), .second, .val (.long q3), .second, .val (.long q4), .second, .val (.int kv), .val (.int nv), .val (.int jv), .val (.ref b1), .val (.long low), .second, .val (.long (0 : Int64)), .second, .val (.long dif), .second, .val (.long bv), .second, .val (.int r1), .val (.int (1 : Int32)), .val (.int r2), .val (.long d2), .second, .val (.int (1 : Int32))] [])) t
          refine XS.iload X26.here hx rfl (hb hby at_237) rfl ?_
          show Steps p.tables e below (T26.setTop (mkF m 239 #[.val (.int p0), .val (.int p1), .val (.long q2), .second, .val (.long q3), .second, .val (.long q4), .second, .val (.int kv), .val (.int nv), .val (.int jv), .val (.ref b1), .val (.long low), .second, .val (.long (0 : Int64)), .second, .val (.long dif), .second, .val (.long bv), .second, .val (.int r1), .val (.int (1 : Int32)), .val (.int r2), .val (.long d2), .second, .val (.int (1 : Int32))] [(.int (1 : Int32))])) t
          refine XS.ifNo X26.here hx rfl (hb hby at_239) rfl (by decide) ?_
          show Steps p.tables e below (T26.setTop (mkF m 242 #[.val (.int p0), .val (.int p1), .val (.long q2), .second, .val (.long q3), .second, .val (.long q4), .second, .val (.int kv), .val (.int nv), .val (.int jv), .val (.ref b1), .val (.long low), .second, .val (.long (0 : Int64)), .second, .val (.long dif), .second, .val (.long bv), .second, .val (.int r1), .val (.int (1 : Int32)), .val (.int r2), .val (.long d2), .second, .val (.int (1 : Int32))] [])) t
          refine XS.iload X26.here hx rfl (hb hby at_242) rfl ?_
          show Steps p.tables e below (T26.setTop (mkF m 244 #[.val (.int p0), .val (.int p1), .val (.long q2), .second, .val (.long q3), .second, .val (.long q4), .second, .val (.int kv), .val (.int nv), .val (.int jv), .val (.ref b1), .val (.long low), .second, .val (.long (0 : Int64)), .second, .val (.long dif), .second, .val (.long bv), .second, .val (.int r1), .val (.int (1 : Int32)), .val (.int r2), .val (.long d2), .second, .val (.int (1 : Int32))] [(.int (1 : Int32))])) t
          refine XS.ifNo X26.here hx rfl (hb hby at_244) rfl (by decide) ?_
          show Steps p.tables e below (T26.setTop (mkF m 247 #[.val (.int p0), .val (.int p1), .val (.long q2), .second, .val (.long q3), .second, .val (.long q4), .second, .val (.int kv), .val (.int nv), .val (.int jv), .val (.ref b1), .val (.long low), .second, .val (.long (0 : Int64)), .second, .val (.long dif), .second, .val (.long bv), .second, .val (.int r1), .val (.int (1 : Int32)), .val (.int r2), .val (.long d2), .second, .val (.int (1 : Int32))] [])) t
          refine XS.iconst X26.here hx rfl (hb hby at_247) ?_
          show Steps p.tables e below (T26.setTop (mkF m 248 #[.val (.int p0), .val (.int p1), .val (.long q2), .second, .val (.long q3), .second, .val (.long q4), .second, .val (.int kv), .val (.int nv), .val (.int jv), .val (.ref b1), .val (.long low), .second, .val (.long (0 : Int64)), .second, .val (.long dif), .second, .val (.long bv), .second, .val (.int r1), .val (.int (1 : Int32)), .val (.int r2), .val (.long d2), .second, .val (.int (1 : Int32))] [(.int (1 : Int32))])) t
          refine XS.goto X26.here hx rfl (pc0 := 248) (pc' := 252) rfl (hb hby at_248) (by decide) (by decide) ?_
          show Steps p.tables e below (T26.setTop (mkF m 252 #[.val (.int p0), .val (.int p1), .val (.long q2), .second, .val (.long q3), .second, .val (.long q4), .second, .val (.int kv), .val (.int nv), .val (.int jv), .val (.ref b1), .val (.long low), .second, .val (.long (0 : Int64)), .second, .val (.long dif), .second, .val (.long bv), .second, .val (.int r1), .val (.int (1 : Int32)), .val (.int r2), .val (.long d2), .second, .val (.int (1 : Int32))] [(.int (1 : Int32))])) t
          exact kt
        exact own_retN X26 hP hx hlk e26 (t := .boolean) hret (by simp) (hb hby at_252) (by decide) (by decide) (z' := (1 : Int32)) rfl ⟨rfl, N2⟩
      · refine own_go (T' := T18) (f' := (mkF m 252 #[.val (.int p0), .val (.int p1), .val (.long q2), .second, .val (.long q3), .second, .val (.long q4), .second, .val (.int kv), .val (.int nv), .val (.int jv), .val (.ref b1), .val (.long low), .second, .val (.long (0 : Int64)), .second, .val (.long dif), .second, .val (.long bv), .second, .val (.int r1), .val (.int (1 : Int32)), .val (.int r2), .val (.long d2), .second, .val (.int (1 : Int32))] [(.int (1 : Int32))])) (fun t kt => ?_) ?_
        · show Steps p.tables e below (T18.setTop (mkF m 196 #[.val (.int p0), .val (.int p1), .val (.long q2), .second, .val (.long q3), .second, .val (.long q4), .second, .val (.int kv), .val (.int nv), .val (.int jv), .val (.ref b1), .val (.long low), .second, .val (.long (0 : Int64)), .second, .val (.long dif), .second, .val (.long bv), .second, .val (.int r1), .val (.int (1 : Int32)), .val (.int r2), .val (.long d2), .second, .val (.int (1 : Int32))] [(.int r2)])) t
          refine XS.ifYes X18.here hx rfl (pc0 := 196) (pc' := 237) rfl (hb hby at_196) rfl ((if0 _ _).trans (flt hc196_24).2.2.2) (by decide) (by decide) ?_
          show Steps p.tables e below (T18.setTop (mkF m 237 #[.val (.int p0), .val (.int p1), .val (.long q2), .second, .val (.long q3), .second, .val (.long q4), .second, .val (.int kv), .val (.int nv), .val (.int jv), .val (.ref b1), .val (.long low), .second, .val (.long (0 : Int64)), .second, .val (.long dif), .second, .val (.long bv), .second, .val (.int r1), .val (.int (1 : Int32)), .val (.int r2), .val (.long d2), .second, .val (.int (1 : Int32))] [])) t
          refine XS.iload X18.here hx rfl (hb hby at_237) rfl ?_
          show Steps p.tables e below (T18.setTop (mkF m 239 #[.val (.int p0), .val (.int p1), .val (.long q2), .second, .val (.long q3), .second, .val (.long q4), .second, .val (.int kv), .val (.int nv), .val (.int jv), .val (.ref b1), .val (.long low), .second, .val (.long (0 : Int64)), .second, .val (.long dif), .second, .val (.long bv), .second, .val (.int r1), .val (.int (1 : Int32)), .val (.int r2), .val (.long d2), .second, .val (.int (1 : Int32))] [(.int (1 : Int32))])) t
          refine XS.ifNo X18.here hx rfl (hb hby at_239) rfl (by decide) ?_
          show Steps p.tables e below (T18.setTop (mkF m 242 #[.val (.int p0), .val (.int p1), .val (.long q2), .second, .val (.long q3), .second, .val (.long q4), .second, .val (.int kv), .val (.int nv), .val (.int jv), .val (.ref b1), .val (.long low), .second, .val (.long (0 : Int64)), .second, .val (.long dif), .second, .val (.long bv), .second, .val (.int r1), .val (.int (1 : Int32)), .val (.int r2), .val (.long d2), .second, .val (.int (1 : Int32))] [])) t
          refine XS.iload X18.here hx rfl (hb hby at_242) rfl ?_
          show Steps p.tables e below (T18.setTop (mkF m 244 #[.val (.int p0), .val (.int p1), .val (.long q2), .second, .val (.long q3), .second, .val (.long q4), .second, .val (.int kv), .val (.int nv), .val (.int jv), .val (.ref b1), .val (.long low), .second, .val (.long (0 : Int64)), .second, .val (.long dif), .second, .val (.long bv), .second, .val (.int r1), .val (.int (1 : Int32)), .val (.int r2), .val (.long d2), .second, .val (.int (1 : Int32))] [(.int (1 : Int32))])) t
          refine XS.ifNo X18.here hx rfl (hb hby at_244) rfl (by decide) ?_
          show Steps p.tables e below (T18.setTop (mkF m 247 #[.val (.int p0), .val (.int p1), .val (.long q2), .second, .val (.long q3), .second, .val (.long q4), .second, .val (.int kv), .val (.int nv), .val (.int jv), .val (.ref b1), .val (.long low), .second, .val (.long (0 : Int64)), .second, .val (.long dif), .second, .val (.long bv), .second, .val (.int r1), .val (.int (1 : Int32)), .val (.int r2), .val (.long d2), .second, .val (.int (1 : Int32))] [])) t
          refine XS.iconst X18.here hx rfl (hb hby at_247) ?_
          show Steps p.tables e below (T18.setTop (mkF m 248 #[.val (.int p0), .val (.int p1), .val (.long q2), .second, .val (.long q3), .second, .val (.long q4), .second, .val (.int kv), .val (.int nv), .val (.int jv), .val (.ref b1), .val (.long low), .second, .val (.long (0 : Int64)), .second, .val (.long dif), .second, .val (.long bv), .second, .val (.int r1), .val (.int (1 : Int32)), .val (.int r2), .val (.long d2), .second, .val (.int (1 : Int32))] [(.int (1 : Int32))])) t
          refine XS.goto X18.here hx rfl (pc0 := 248) (pc' := 252) rfl (hb hby at_248) (by decide) (by decide) ?_
          show Steps p.tables e below (T18.setTop (mkF m 252 #[.val (.int p0), .val (.int p1), .val (.long q2), .second, .val (.long q3), .second, .val (.long q4), .second, .val (.int kv), .val (.int nv), .val (.int jv), .val (.ref b1), .val (.long low), .second, .val (.long (0 : Int64)), .second, .val (.long dif), .second, .val (.long bv), .second, .val (.int r1), .val (.int (1 : Int32)), .val (.int r2), .val (.long d2), .second, .val (.int (1 : Int32))] [(.int (1 : Int32))])) t
          exact kt
        exact own_retN X18 hP hx hlk e18 (t := .boolean) hret (by simp) (hb hby at_252) (by decide) (by decide) (z' := (1 : Int32)) rfl ⟨rfl, N2⟩
set_option maxRecDepth 65536 in
set_option maxHeartbeats 40000000 in
theorem comes_1 {Post : Tables → Env → Array Value → State → Outcome → State → Prop} (hpost : ∀ tb e args s v u, (limb_1_1.after args s (.returned v) u = true ∧ limb_1_2.after args s (.returned v) u = true ∧ True) → FrameEnd s (.returned v) u (Jvm.fieldLocs frame_1_writes args s ++ Jvm.arrayLocs frame_1_arrays args s ++ Jvm.staticLocs frame_1_statics s) 16 512 → Post tb e args s (.returned v) u) :
    ArmFor flags0 classFile x code maxLocals ret World_1 tables_1 room_1 Calls_1 rest_1 Pre_1 Post := by
  intro l hfl _ _ p e ha hc hk s m args below hf hA hF happ hP
  obtain ⟨hcalls, hrest, hpre⟩ := hP
  obtain ⟨-, -, -, hnamed, -, -, -, hat⟩ := (Spec.applies_iff hf).mp happ
  obtain ⟨hg, hn⟩ := and_e (Cond.before_iff.mp (show (Jvm.Cond.and given_1 narrow_1).before args s = true from hpre))
  obtain ⟨k1, k2⟩ := and_e hg
  obtain ⟨k3, k4⟩ := and_e k2
  obtain ⟨k5, k6⟩ := and_e k4
  obtain ⟨k7, k8⟩ := and_e k6
  obtain ⟨k9, k10⟩ := and_e k8
  obtain ⟨w0, w1, w2, w3, w4, rfl⟩ : ∃ w0 w1 w2 w3 w4 : Value, args = #[w0, w1, w2, w3, w4] := by
    have hs : args.size = 5 := by simpa [Cond.value, given_1] using k1
    obtain ⟨L⟩ := args
    match L, hs with
    | [w0, w1, w2, w3, w4], _ => exact ⟨w0, w1, w2, w3, w4, rfl⟩
  have hw := fun d (hd : d ∈ tables_1) => atoms_spec (ws := Jvm.Cond.code x code maxLocals ret :: tables_1) hat d (List.mem_cons_of_mem _ hd)
  obtain ⟨i0, ei0⟩ := is_v k3
  obtain rfl : w0 = (.int i0) := Option.some.inj ei0
  obtain ⟨i1, ei1⟩ := is_v k5
  obtain rfl : w1 = (.int i1) := Option.some.inj ei1
  obtain ⟨i2, ei2⟩ := isL_v k7
  obtain rfl : w2 = (.long i2) := Option.some.inj ei2
  obtain ⟨i3, ei3⟩ := isL_v k9
  obtain rfl : w3 = (.long i3) := Option.some.inj ei3
  obtain ⟨i4, ei4⟩ := isL_v k10
  obtain rfl : w4 = (.long i4) := Option.some.inj ei4
  obtain ⟨n, o, h1, h2, h3, _, L, rfl, ⟨rfl, N⟩, hq⟩ := rm0 l s _ hw (ws := tables_1) i0 i1 i2 i3 i4 s.heap s.heap.size (Nat.le_refl _)  p e ha hc hk s m _ below hf ((Spec.applies_iff_loose hf).mp happ).1 ⟨rfl, State.Warmed39.refl s, rfl⟩ trivial
  refine ⟨n, _, h1, h2, h3, hpost _ _ _ _ _ _ ⟨Cond.after_iff.mpr rfl, Cond.after_iff.mpr (eq_i res_at (Term.int_eval (1)) rfl), trivial⟩ ⟨hq.1, hq.2.1, (hq.2.2.sift fun y hy => Or.inr (N y hy)).mono (by decide) (by decide)⟩⟩
theorem main_1_1 : Claimed_1_1 := comes_1 fun _ _ _ _ _ _ h hF => ⟨h.1, hF⟩
theorem main_1_2 : Claimed_1_2 := comes_1 fun _ _ _ _ _ _ h hF => ⟨h.2.1, hF⟩
end Jvm.Pilot.@@N@@
namespace Jvm.Pilot.@@N@@
open Jvm Jvm.ClassFile Sem Op Lib Jvm.Free Jvm.Stand Jvm.Pilot.@@N@@.Jvm.D
/-! MADE BY PROGRAM (witnessworld.py) out of the Statement's table words and the real class files: 12 classes; the members and pool entries that the words name. The judged class is class 1, her method 4. -/
namespace start1
open Jvm.ClassFile
def u (s : String) : CpInfo := .utf8 (stringToUtf16 s)
/-- a pool by its gaps: so many unusable entries, then the entry; so many at the end -/
def gap : Nat → List CpInfo → List CpInfo
  | 0, r => r
  | n + 1, r => .unusable :: gap n r
def poolList (es : List (Nat × CpInfo)) (last : Nat) : List CpInfo := es.foldr (fun e r => gap e.1 (e.2 :: r)) (gap last [])
def pool (es : List (Nat × CpInfo)) (last : Nat) : Array CpInfo := ⟨poolList es last⟩
def fileOf (pool : Array CpInfo) (this : Nat) (attrs : Array Attribute := #[]) (ms : Array MethodInfo := #[]) (fl : Nat := 33) (sup : Nat := 0) (ifs : Array Nat := #[]) (fds : Array FieldInfo := #[]) : ClassFile where
  minorVersion := 0
  majorVersion := 65
  constantPool := pool
  accessFlags := fl
  thisClass := this
  superClass := sup
  interfaces := ifs
  fields := fds
  methods := ms
  attributes := attrs
def plain (name : String) (sup : Option ClassId) : Class where
  name := name
  kind := .ordinary
  loader := none
  accessFlags := 33
  super := sup
  interfaces := #[]
  cf := none
  fields := #[]
  methods := #[]
  instanceTypes := #[]
  staticTypes := #[]
  resolved := #[]
  callSites := []
  init := .initialized
  statics := none
  mirror := none

def pool0 : Array CpInfo := pool [(5, u "<init>"), (0, u "()V"), (1, .class_ 10), (1, u "java/lang/Object")] 113

def k0c0 : Code := { maxStack := 0, maxLocals := 1, code := object_method_1_code, exceptionTable := #[], attributes := #[] }
def k0m0 : Method := { name := "<init>", desc := "()V", sig := { parameters := [], returnType := none }, accessFlags := 1, code := some k0c0 }
/-- java/lang/Object -/
def k0 : Class := { plain "java/lang/Object" none with
  accessFlags := 33
  interfaces := #[]
  cf := some (fileOf pool0 8 #[] #[{ accessFlags := 1, nameIndex := 5, descriptorIndex := 6, attributes := #[] }] 33 0 #[] #[])
  fields := #[]
  methods := #[k0m0]
  instanceTypes := #[]
  staticTypes := #[]
  resolved := Array.replicate 124 none
  statics := none }

def pool1 : Array CpInfo := pool [(2, .class_ 4), (1, u "java/lang/Object"), (0, u "<init>"), (0, u "()V"), (0, .methodref 8 9), (0, .class_ 10), (0, .nameAndType 11 12), (0, u "java/lang/Math"), (0, u "min"), (0, u "(II)I"), (0, .long 18446744073709551615), (1, .methodref 16 17), (0, .class_ 18), (0, .nameAndType 19 12), (0, u "com/example/resemblr/resemblr/SimHashBlocksFirstSharedPinLaw"), (0, u "start"), (0, .integer 2147483647), (0, .class_ 22), (0, u "com/example/resemblr/resemblr/SimHashBlocks"), (0, .methodref 21 24), (0, .nameAndType 5 25), (0, u "(I)V"), (0, .methodref 16 27), (0, .nameAndType 28 29), (0, u "lowBelow"), (0, u "(I)J"), (0, .methodref 16 31), (0, .nameAndType 32 33), (0, u "maskOf"), (0, u "(II)J"), (0, .methodref 21 35), (0, .nameAndType 36 37), (0, u "firstShared"), (0, u "(JJ)I"), (3, u "law"), (0, u "(IIJJJ)Z")] 2

def k1m0 : Method := { name := "<init>", desc := "()V", sig := { parameters := [], returnType := none }, accessFlags := 1, code := none }
def k1c1 : Code := { maxStack := 3, maxLocals := 5, code := method_2_code, exceptionTable := #[], attributes := #[] }
def k1m1 : Method := { name := "start", desc := "(II)I", sig := { parameters := [.int, .int], returnType := some .int }, accessFlags := 10, code := some k1c1 }
def k1c2 : Code := { maxStack := 4, maxLocals := 1, code := method_3_code, exceptionTable := #[], attributes := #[] }
def k1m2 : Method := { name := "lowBelow", desc := "(I)J", sig := { parameters := [.int], returnType := some .long }, accessFlags := 10, code := some k1c2 }
def k1c3 : Code := { maxStack := 4, maxLocals := 5, code := method_4_code, exceptionTable := #[], attributes := #[] }
def k1m3 : Method := { name := "maskOf", desc := "(II)J", sig := { parameters := [.int, .int], returnType := some .long }, accessFlags := 10, code := some k1c3 }
def k1c4 : Code := { maxStack := 8, maxLocals := 26, code := code, exceptionTable := #[], attributes := #[] }
def k1m4 : Method := { name := "law", desc := "(IIJJJ)Z", sig := { parameters := [.int, .int, .long, .long, .long], returnType := some .boolean }, accessFlags := 9, code := some k1c4 }
/-- com/example/resemblr/resemblr/SimHashBlocksFirstSharedPinLaw -/
def k1 : Class := { plain "com/example/resemblr/resemblr/SimHashBlocksFirstSharedPinLaw" (some 0) with
  accessFlags := 49
  interfaces := #[]
  cf := some (fileOf pool1 16 #[] #[{ accessFlags := 1, nameIndex := 5, descriptorIndex := 6, attributes := #[] }, { accessFlags := 10, nameIndex := 19, descriptorIndex := 12, attributes := #[] }, { accessFlags := 10, nameIndex := 28, descriptorIndex := 29, attributes := #[] }, { accessFlags := 10, nameIndex := 32, descriptorIndex := 33, attributes := #[] }, { accessFlags := 9, nameIndex := 41, descriptorIndex := 42, attributes := #[] }] 49 2 #[] #[])
  fields := #[]
  methods := #[k1m0, k1m1, k1m2, k1m3, k1m4]
  instanceTypes := #[]
  staticTypes := #[]
  resolved := Array.replicate 45 none
  statics := none }

def pool2 : Array CpInfo := pool [(1, .methodref 2 3), (0, .class_ 4), (0, .nameAndType 5 6), (0, u "java/lang/Object"), (0, u "<init>"), (0, u "()V"), (0, .class_ 8), (0, u "com/example/resemblr/resemblr/SimHashBlocks"), (9, .fieldref 7 19), (0, .nameAndType 20 21), (0, u "maxDistance"), (0, u "I"), (0, .fieldref 7 23), (0, .nameAndType 24 25), (0, u "masks"), (0, u "[J"), (0, .fieldref 7 27), (0, .nameAndType 28 29), (0, u "shifts"), (0, u "[I"), (0, .fieldref 7 31), (0, .nameAndType 32 29), (0, u "widths"), (2, .long 18446744073709551615), (1, u "MIN_DISTANCE"), (2, u "MAX_DISTANCE"), (1, u "(I)V"), (10, u "firstShared"), (0, u "(JJ)I")] 17

def k2c0 : Code := { maxStack := 7, maxLocals := 5, code := prog_24_method_1_code, exceptionTable := #[], attributes := #[] }
def k2m0 : Method := { name := "<init>", desc := "(I)V", sig := { parameters := [.int], returnType := none }, accessFlags := 1, code := some k2c0 }
def k2c1 : Code := { maxStack := 4, maxLocals := 8, code := prog_24_method_6_code, exceptionTable := #[], attributes := #[] }
def k2m1 : Method := { name := "firstShared", desc := "(JJ)I", sig := { parameters := [.long, .long], returnType := some .int }, accessFlags := 1, code := some k2c1 }
/-- com/example/resemblr/resemblr/SimHashBlocks -/
def k2 : Class := { plain "com/example/resemblr/resemblr/SimHashBlocks" (some 0) with
  accessFlags := 33
  interfaces := #[]
  cf := some (fileOf pool2 7 #[] #[{ accessFlags := 1, nameIndex := 5, descriptorIndex := 42, attributes := #[] }, { accessFlags := 1, nameIndex := 53, descriptorIndex := 54, attributes := #[] }] 33 2 #[] #[{ accessFlags := 25, nameIndex := 37, descriptorIndex := 21, attributes := #[] }, { accessFlags := 25, nameIndex := 40, descriptorIndex := 21, attributes := #[] }, { accessFlags := 18, nameIndex := 20, descriptorIndex := 21, attributes := #[] }, { accessFlags := 18, nameIndex := 24, descriptorIndex := 25, attributes := #[] }, { accessFlags := 18, nameIndex := 28, descriptorIndex := 29, attributes := #[] }, { accessFlags := 18, nameIndex := 32, descriptorIndex := 29, attributes := #[] }])
  fields := #[{ name := "MIN_DISTANCE", type := .int, accessFlags := 25, slot := 0, constantValue := 0 }, { name := "MAX_DISTANCE", type := .int, accessFlags := 25, slot := 1, constantValue := 0 }, { name := "maxDistance", type := .int, accessFlags := 18, slot := 0, constantValue := 0 }, { name := "masks", type := (.array .long), accessFlags := 18, slot := 1, constantValue := 0 }, { name := "shifts", type := (.array .int), accessFlags := 18, slot := 2, constantValue := 0 }, { name := "widths", type := (.array .int), accessFlags := 18, slot := 3, constantValue := 0 }]
  methods := #[k2m0, k2m1]
  instanceTypes := #[.int, (.array .long), (.array .int), (.array .int)]
  staticTypes := #[.int, .int]
  resolved := Array.replicate 72 none
  statics := none }

def pool3 : Array CpInfo := pool [(1, .class_ 2), (0, u "java/lang/Math"), (1, .class_ 6), (1, u "java/lang/Object"), (0, u "<init>"), (0, u "()V"), (89, .class_ 100), (1, u "java/lang/Math$RandomNumberGeneratorHolder"), (71, u "negativeZeroFloatBits"), (0, u "J"), (2, u "negativeZeroDoubleBits"), (24, u "min"), (43, u "$assertionsDisabled"), (0, u "Z"), (88, u "(II)I"), (2, u "twoToTheDoubleScaleDown"), (0, u "D"), (4, u "twoToTheDoubleScaleUp"), (9, u "E"), (3, u "PI"), (2, u "TAU"), (2, u "DEGREES_TO_RADIANS"), (0, u "RADIANS_TO_DEGREES")] 94

def k3m0 : Method := { name := "<init>", desc := "()V", sig := { parameters := [], returnType := none }, accessFlags := 2, code := none }
def k3c1 : Code := { maxStack := 2, maxLocals := 2, code := jdk_29_method_69_code, exceptionTable := #[], attributes := #[] }
def k3m1 : Method := { name := "min", desc := "(II)I", sig := { parameters := [.int, .int], returnType := some .int }, accessFlags := 9, code := some k3c1 }
/-- java/lang/Math -/
def k3 : Class := { plain "java/lang/Math" (some 0) with
  accessFlags := 49
  interfaces := #[]
  cf := some (fileOf pool3 1 #[.nestMembers #[98]] #[{ accessFlags := 2, nameIndex := 7, descriptorIndex := 8, attributes := #[] }, { accessFlags := 9, nameIndex := 201, descriptorIndex := 335, attributes := #[] }] 49 4 #[] #[{ accessFlags := 25, nameIndex := 354, descriptorIndex := 339, attributes := #[] }, { accessFlags := 25, nameIndex := 358, descriptorIndex := 339, attributes := #[] }, { accessFlags := 25, nameIndex := 361, descriptorIndex := 339, attributes := #[] }, { accessFlags := 26, nameIndex := 364, descriptorIndex := 339, attributes := #[] }, { accessFlags := 26, nameIndex := 365, descriptorIndex := 339, attributes := #[] }, { accessFlags := 26, nameIndex := 172, descriptorIndex := 173, attributes := #[] }, { accessFlags := 26, nameIndex := 176, descriptorIndex := 173, attributes := #[] }, { accessFlags := 8, nameIndex := 344, descriptorIndex := 339, attributes := #[] }, { accessFlags := 8, nameIndex := 338, descriptorIndex := 339, attributes := #[] }, { accessFlags := 4120, nameIndex := 245, descriptorIndex := 246, attributes := #[] }])
  fields := #[{ name := "E", type := .double, accessFlags := 25, slot := 0, constantValue := 0 }, { name := "PI", type := .double, accessFlags := 25, slot := 1, constantValue := 0 }, { name := "TAU", type := .double, accessFlags := 25, slot := 2, constantValue := 0 }, { name := "DEGREES_TO_RADIANS", type := .double, accessFlags := 26, slot := 3, constantValue := 0 }, { name := "RADIANS_TO_DEGREES", type := .double, accessFlags := 26, slot := 4, constantValue := 0 }, { name := "negativeZeroFloatBits", type := .long, accessFlags := 26, slot := 5, constantValue := 0 }, { name := "negativeZeroDoubleBits", type := .long, accessFlags := 26, slot := 6, constantValue := 0 }, { name := "twoToTheDoubleScaleUp", type := .double, accessFlags := 8, slot := 7, constantValue := 0 }, { name := "twoToTheDoubleScaleDown", type := .double, accessFlags := 8, slot := 8, constantValue := 0 }, { name := "$assertionsDisabled", type := .boolean, accessFlags := 4120, slot := 9, constantValue := 0 }]
  methods := #[k3m0, k3m1]
  instanceTypes := #[]
  staticTypes := #[.double, .double, .double, .double, .double, .long, .long, .double, .double, .boolean]
  resolved := Array.replicate 460 none
  statics := none }

def pool4 : Array CpInfo := pool [(1, u "java/lang/Cloneable"), (0, .class_ 1), (0, u "java/lang/Object"), (0, .class_ 3)] 3

/-- java/lang/Cloneable -/
def k4 : Class := { plain "java/lang/Cloneable" (some 0) with
  accessFlags := 1537
  interfaces := #[]
  cf := some (fileOf pool4 2 #[] #[] 1537 4 #[] #[])
  fields := #[]
  methods := #[]
  instanceTypes := #[]
  staticTypes := #[]
  resolved := Array.replicate 8 none
  statics := none }

def pool5 : Array CpInfo := pool [(1, u "java/io/Serializable"), (0, .class_ 1), (0, u "java/lang/Object"), (0, .class_ 3)] 3

/-- java/io/Serializable -/
def k5 : Class := { plain "java/io/Serializable" (some 0) with
  accessFlags := 1537
  interfaces := #[]
  cf := some (fileOf pool5 2 #[] #[] 1537 4 #[] #[])
  fields := #[]
  methods := #[]
  instanceTypes := #[]
  staticTypes := #[]
  resolved := Array.replicate 8 none
  statics := none }

/-- the primitive byte -/
def k6 : Class := { plain "byte" none with kind := .primitive 'B', accessFlags := 0x411 }
/-- [B -/
def k7 : Class := { plain "[B" (some 0) with kind := .array 6 .byte, interfaces := #[4, 5], accessFlags := 1041 }

/-- the primitive int -/
def k8 : Class := { plain "int" none with kind := .primitive 'I', accessFlags := 0x411 }
/-- [I -/
def k9 : Class := { plain "[I" (some 0) with kind := .array 8 .int, interfaces := #[4, 5], accessFlags := 1041 }

/-- the primitive long -/
def k10 : Class := { plain "long" none with kind := .primitive 'J', accessFlags := 0x411 }
/-- [J -/
def k11 : Class := { plain "[J" (some 0) with kind := .array 10 .long, interfaces := #[4, 5], accessFlags := 1041 }

def heap : Heap := #[]
def classes : Array Class := #[k0, k1, k2, k3, k4, k5, k6, k7, k8, k9, k10, k11]
def interned : List (Array UInt16 × Addr) := []
def slotsUsed : Nat := 0
def theMethod : MethodId := ⟨1, 4⟩
def args0 : Array Value := #[.int 5, .int 6, .long 7, .long 8, .long 9]
def aboutOver (below : List Frame) : State where
  vm := { classes := classes, interned := interned.toArray }
  heap := heap
  slotsUsed := slotsUsed
  threads := #[{ frames := .invoking theMethod args0 :: below }]
def below0 : List Frame := [.native { method := ⟨0, 0⟩, args := #[] }]
def about1 : State := aboutOver below0
def p0 : Program := .bare "" "" ""
def e0 : Env := launch0.env 0 0 0
theorem w_frames : about1.frames = Frame.invoking theMethod args0 :: below0 := rfl
set_option maxRecDepth 65536 in
theorem w_args : argsFit about1.vm theMethod args0 = true := by decide +kernel
set_option maxRecDepth 65536 in
theorem w_heap : heapFits about1 = true := by decide +kernel
set_option maxRecDepth 65536 in
theorem w_runnable : about1.curStatus? = some .runnable := by decide +kernel
set_option maxRecDepth 65536 in
theorem w_alone : about1.alone = true := by decide +kernel
set_option maxRecDepth 65536 in
theorem w_named : about1.methodNamed? x = some theMethod := by decide +kernel
set_option maxRecDepth 65536 in
theorem w_hears : about1.hears theMethod below0 = true := by decide +kernel
set_option maxRecDepth 65536 in
theorem w_ripe : about1.ripe theMethod args0 below0 = true := by decide +kernel
theorem w_running : about1.status = .running := rfl
set_option maxRecDepth 65536 in
theorem w_room : about1.hasRoom e0.platform room_1 = true :=
  launch0.hasRoom_least _ room_1 (by decide +kernel) (by decide +kernel) (by decide +kernel) (by decide +kernel) (by decide +kernel) (by decide +kernel)
theorem allAtoms_all (ts : List Jvm.Cond) (a : Array Jvm.Value) (st : Jvm.State) : (allAtoms ts).before a st = ts.all (fun c => c.before a st) := by
  induction ts with
  | nil => rfl
  | cons c t ih =>
    show (Jvm.Cond.and c (allAtoms t)).before a st = _
    rw [Jvm.Cond.before_and, ih, List.all_cons]
def words1 : List Jvm.Cond := Jvm.Cond.code x code maxLocals ret :: tables_1
/-- a 'code' word, met by the world's own term for the bytes: nothing is compared byte by byte -/
theorem code_word {y : MethodName} {bytes : ByteArray} {mx : Nat} {rt : Option FieldType} {a : Array Value} {s : State} {m : MethodId} {meth : Method} {c : Code} (h1 : s.methodNamed? y = some m) (h2 : s.vm.method? m = some meth) (h3 : meth.code = some c) (h4 : c.code = bytes)
    (h5 : (c.maxLocals == mx && c.exceptionTable.isEmpty && decide (c.maxStack ≤ mostOperands) && decide (meth.sig.returnType = rt) && !meth.locks && decide (parseMethodDescriptor y.desc = some meth.sig)) = true) : (Jvm.Cond.code y bytes mx rt).before a s = true := by
  simp only [Bool.and_eq_true, beq_iff_eq, Bool.not_eq_true', decide_eq_true_eq] at h5
  obtain ⟨⟨⟨⟨⟨g1, g2⟩, g3⟩, g4⟩, g5⟩, g6⟩ := h5
  simp [Cond.before, Cond.holds, Cond.value, h1, h2, h3, h4, g1, g2, g3, g4, g5, g6]
def isCode : Jvm.Cond → Bool
  | .code _ _ _ _ => true
  | _ => false
theorem all_split {L : List Jvm.Cond} {P : Jvm.Cond → Bool} (h1 : L.all (fun c => isCode c || P c) = true) (h2 : ∀ c ∈ L.filter isCode, P c = true) : L.all P = true := by
  refine List.all_eq_true.mpr fun c hc => ?_
  have h := List.all_eq_true.mp h1 c hc
  rcases Bool.eq_false_or_eq_true (isCode c) with hi | hi
  · exact h2 c (List.mem_filter.mpr ⟨hc, hi⟩)
  · simpa [hi] using h
set_option maxRecDepth 65536 in
theorem w_c0 : (Jvm.Cond.code x code maxLocals ret).before args0 about1 = true := code_word (m := ⟨1, 4⟩) (meth := k1m4) (c := k1c4) (by decide +kernel) rfl rfl rfl (by decide +kernel)
set_option maxRecDepth 65536 in
theorem w_c1 : (Jvm.Cond.code ({ cls := "com/example/resemblr/resemblr/SimHashBlocks", name := "<init>", desc := "(I)V" } : Jvm.MethodName) prog_24_method_1_code (5 : Nat) (Option.none : Option Jvm.ClassFile.FieldType)).before args0 about1 = true := code_word (m := ⟨2, 0⟩) (meth := k2m0) (c := k2c0) (by decide +kernel) rfl rfl rfl (by decide +kernel)
set_option maxRecDepth 65536 in
theorem w_c2 : (Jvm.Cond.code ({ cls := "java/lang/Object", name := "<init>", desc := "()V" } : Jvm.MethodName) object_method_1_code (1 : Nat) (Option.none : Option Jvm.ClassFile.FieldType)).before args0 about1 = true := code_word (m := ⟨0, 0⟩) (meth := k0m0) (c := k0c0) (by decide +kernel) rfl rfl rfl (by decide +kernel)
set_option maxRecDepth 65536 in
theorem w_c3 : (Jvm.Cond.code ({ cls := "com/example/resemblr/resemblr/SimHashBlocksFirstSharedPinLaw", name := "start", desc := "(II)I" } : Jvm.MethodName) method_2_code (5 : Nat) (Option.some Jvm.ClassFile.FieldType.int)).before args0 about1 = true := code_word (m := ⟨1, 1⟩) (meth := k1m1) (c := k1c1) (by decide +kernel) rfl rfl rfl (by decide +kernel)
set_option maxRecDepth 65536 in
theorem w_c4 : (Jvm.Cond.code ({ cls := "java/lang/Math", name := "min", desc := "(II)I" } : Jvm.MethodName) jdk_29_method_69_code (2 : Nat) (Option.some Jvm.ClassFile.FieldType.int)).before args0 about1 = true := code_word (m := ⟨3, 1⟩) (meth := k3m1) (c := k3c1) (by decide +kernel) rfl rfl rfl (by decide +kernel)
set_option maxRecDepth 65536 in
theorem w_c5 : (Jvm.Cond.code ({ cls := "com/example/resemblr/resemblr/SimHashBlocksFirstSharedPinLaw", name := "lowBelow", desc := "(I)J" } : Jvm.MethodName) method_3_code (1 : Nat) (Option.some Jvm.ClassFile.FieldType.long)).before args0 about1 = true := code_word (m := ⟨1, 2⟩) (meth := k1m2) (c := k1c2) (by decide +kernel) rfl rfl rfl (by decide +kernel)
set_option maxRecDepth 65536 in
theorem w_c6 : (Jvm.Cond.code ({ cls := "com/example/resemblr/resemblr/SimHashBlocks", name := "firstShared", desc := "(JJ)I" } : Jvm.MethodName) prog_24_method_6_code (8 : Nat) (Option.some Jvm.ClassFile.FieldType.int)).before args0 about1 = true := code_word (m := ⟨2, 1⟩) (meth := k2m1) (c := k2c1) (by decide +kernel) rfl rfl rfl (by decide +kernel)
set_option maxRecDepth 65536 in
theorem w_c7 : (Jvm.Cond.code ({ cls := "com/example/resemblr/resemblr/SimHashBlocksFirstSharedPinLaw", name := "maskOf", desc := "(II)J" } : Jvm.MethodName) method_4_code (5 : Nat) (Option.some Jvm.ClassFile.FieldType.long)).before args0 about1 = true := code_word (m := ⟨1, 3⟩) (meth := k1m3) (c := k1c3) (by decide +kernel) rfl rfl rfl (by decide +kernel)
def codes1 : List Jvm.Cond := [Jvm.Cond.code x code maxLocals ret, Jvm.Cond.code ({ cls := "com/example/resemblr/resemblr/SimHashBlocks", name := "<init>", desc := "(I)V" } : Jvm.MethodName) prog_24_method_1_code (5 : Nat) (Option.none : Option Jvm.ClassFile.FieldType), Jvm.Cond.code ({ cls := "java/lang/Object", name := "<init>", desc := "()V" } : Jvm.MethodName) object_method_1_code (1 : Nat) (Option.none : Option Jvm.ClassFile.FieldType), Jvm.Cond.code ({ cls := "com/example/resemblr/resemblr/SimHashBlocksFirstSharedPinLaw", name := "start", desc := "(II)I" } : Jvm.MethodName) method_2_code (5 : Nat) (Option.some Jvm.ClassFile.FieldType.int), Jvm.Cond.code ({ cls := "java/lang/Math", name := "min", desc := "(II)I" } : Jvm.MethodName) jdk_29_method_69_code (2 : Nat) (Option.some Jvm.ClassFile.FieldType.int), Jvm.Cond.code ({ cls := "com/example/resemblr/resemblr/SimHashBlocksFirstSharedPinLaw", name := "lowBelow", desc := "(I)J" } : Jvm.MethodName) method_3_code (1 : Nat) (Option.some Jvm.ClassFile.FieldType.long), Jvm.Cond.code ({ cls := "com/example/resemblr/resemblr/SimHashBlocks", name := "firstShared", desc := "(JJ)I" } : Jvm.MethodName) prog_24_method_6_code (8 : Nat) (Option.some Jvm.ClassFile.FieldType.int), Jvm.Cond.code ({ cls := "com/example/resemblr/resemblr/SimHashBlocksFirstSharedPinLaw", name := "maskOf", desc := "(II)J" } : Jvm.MethodName) method_4_code (5 : Nat) (Option.some Jvm.ClassFile.FieldType.long)]
set_option maxRecDepth 65536 in
theorem codes_eq : words1.filter isCode = codes1 := rfl
theorem w_codes : ∀ c ∈ words1.filter isCode, c.before args0 about1 = true := by
  rw [codes_eq]
  intro c hc
  simp only [codes1, List.mem_cons, List.not_mem_nil, or_false] at hc
  rcases hc with rfl | rfl | rfl | rfl | rfl | rfl | rfl | rfl
  · exact w_c0
  · exact w_c1
  · exact w_c2
  · exact w_c3
  · exact w_c4
  · exact w_c5
  · exact w_c6
  · exact w_c7
set_option maxRecDepth 65536 in
theorem w_t1 : (words1.take 24).all (fun c => isCode c || c.before args0 about1) = true := by decide +kernel
set_option maxRecDepth 65536 in
theorem w_t2 : (words1.drop 24).all (fun c => isCode c || c.before args0 about1) = true := by decide +kernel
theorem w_tables : (allAtoms (Jvm.Cond.code x code maxLocals ret :: tables_1)).before args0 about1 = true := by
  rw [allAtoms_all]
  show words1.all (fun c => c.before args0 about1) = true
  refine all_split ?_ w_codes
  rw [← List.take_append_drop 24 words1, List.all_append, w_t1, w_t2]
  rfl
set_option maxRecDepth 65536 in
theorem w_case : (Jvm.Cond.and given_1 narrow_1).before args0 about1 = true := by decide +kernel
theorem w_applies : (headSpec (Jvm.Cond.code x code maxLocals ret :: tables_1) room_1).applies x e0.platform about1 = true :=
  (Spec.applies_iff w_frames).mpr ⟨w_running, w_runnable, w_alone, w_named, w_hears, w_ripe, w_room, w_tables⟩
theorem atStart : AtStart classFile x code maxLocals ret World_1 tables_1 room_1 Calls_1 rest_1 Pre_1 launch0 p0 e0 about1 theMethod args0 below0 :=
  ⟨lists_1, trivial, launch0.admits_env _ _ _, launch0.least_env, fairChoices_fair.cas, fairChoices_fair.clock, w_frames, w_args, w_heap, w_applies, trivial, trivial, w_case⟩
end start1
theorem witness_1 : WitnessClaimed_1 := ⟨start1.p0, start1.e0, start1.about1, start1.theMethod, start1.args0, start1.below0, start1.atStart⟩
end Jvm.Pilot.@@N@@
