import JvmDerived
import JvmDerived.Pilot.@@N@@Statement
import JvmDerived.Pilot.@@N@@Code
set_option linter.unusedVariables false
set_option linter.unusedSimpArgs false
@@BLOCK:NumsL.lean.txt@@
namespace Jvm.Pilot.@@N@@
open Jvm Jvm.ClassFile Sem Op Lib Jvm.Free Jvm.Stand Jvm.LawKit Jvm.RoadKit Bundle Jvm.Pilot.@@N@@.Jvm.D
/-! own layer: the run from here ends, and Q holds of what it returned, of the heap and of the places written -/
def own_End (p : Program) (e : Env) (below : List Frame) (P : State → Outcome → Prop) (T : State) (f : JFrame) : Prop := ∃ s₂ o, Steps p.tables e below (T.setTop f) s₂ ∧ P s₂ o
def own_P (below : List Frame) (s : State) (Q : Option Value → Heap → List Loc → Prop) (kc ns : Nat) : State → Outcome → Prop := fun s₂ o => s₂.status = .running ∧ Ended s₂ below o ∧ ∃ v L, o = .returned v ∧ Q v s₂.heap L ∧ FrameEnd s o s₂ L kc ns
def own_Met (l : Launch) (Z : State) (y : MethodName) (bytes : ByteArray) (maxL : Nat) (ret : Option FieldType) (ws : List Jvm.Cond) (rm : Room) (as' : Array Value) (h : Heap) (Q : Option Value → Heap → List Loc → Prop) : Prop :=
  MetFree l y (head1 (Jvm.Cond.code y bytes maxL ret :: ws) rm) (fun a U => a = as' ∧ Z.Warmed39 U.vm ∧ U.heap = h) (fun _ _ _ _ _ => True) (fun _ U o U' => ∃ v L, o = .returned v ∧ Q v U'.heap L ∧ FrameEnd U o U' L rm.cells rm.slots)
section OwnSteps
variable {p : Program} {l : Launch} {e : Env} {R : Room} {s : State} {m : MethodId} {args : Array Value} {below : List Frame} {meth : Method} {c : Code} {T : State} {locs : List Loc} {cells slots : Nat} {P : State → Outcome → Prop} {Q : Option Value → Heap → List Loc → Prop} {kc ns : Nat} {Z : State} {a0 : Array Value} {h : Heap} {f : JFrame}
theorem own_go {T' : State} {f' : JFrame} (st : ∀ t, Steps p.tables e below (T'.setTop f') t → Steps p.tables e below (T.setTop f) t) (k : own_End p e below P T' f') : own_End p e below P T f := by
  obtain ⟨s₂, o, h1, h2⟩ := k
  exact ⟨s₂, o, st _ h1, h2⟩
theorem own_via {T' : State} {f' : JFrame} (st : Steps p.tables e below (T.setTop f) (T'.setTop f')) (k : own_End p e below P T' f') : own_End p e below P T f := own_go (fun _ h => st.trans h) k
theorem own_exf (h : False) : own_End p e below P T f := h.elim
theorem own_body {y : MethodName} {bytes : ByteArray} {maxL : Nat} {ret : Option FieldType} {ws : List Jvm.Cond} {rm : Room} {as' : Array Value} (hpl : plainFor y = true)
    (body : ∀ (p : Program) (e : Env) (s : State) (m : MethodId) (below : List Frame) (meth : Method) (c : Code) (s₁ : State), p.tables.exec = Jvm.exec → Z.Warmed39 s.vm → c.code = bytes → c.maxLocals = maxL → s.vm.findClass y.cls = some m.cls → meth.name = y.name → meth.sig.returnType = ret → meth.locks = false →
      Stand p l e rm s m as' below meth c s₁ [] 0 0 → s₁.heap = h → own_End p e below (own_P below s Q rm.cells rm.slots) s₁ (entryFrame m as' maxL)) : own_Met l Z y bytes maxL ret ws rm as' h Q := by
  refine MetFree.of_bodySF hpl hisR ?_
  intro p e s m args below meth c s₁ Bd hml0 hP hK
  obtain ⟨rfl, hZ, hh⟩ := hP
  exact body p e s m below meth c s₁ Bd.exec hZ Bd.bytes hml0 (findClass_of_methodNamed Bd.named) (name_of_methodNamed Bd.named Bd.method).1 Bd.returns Bd.notSynchronized (Stand.of_body Bd) (by rw [← hh, Bd.state]; rfl)
theorem own_cast {g g' : JFrame} (q : g = g') (k : own_End p e below P T g') : own_End p e below P T g := q ▸ k
theorem own_ret (X : Stand p l e R s m args below meth c T locs cells slots) (hP : P = own_P below s Q kc ns) (hlk : meth.locks = false) (eT : T.heap = h) {v : Option Value} (hv : meth.sig.returnType = none → v = none) (hk : cells ≤ kc) (hn : slots ≤ ns) (hQ : Q v h locs)
    (st : ∀ fs, (∀ (f : JFrame) (acts : List Action), f.method = m → f.locked = none → f.entered = [] → (doReturn e (T.setTop f) acts v).1 = T.setFrames fs) → Steps p.tables e below (T.setTop f) (T.setFrames fs)) : own_End p e below P T f := by
  obtain ⟨fs, hr, hrun, hended, hW, hsame⟩ := X.leave hv hlk
  subst hP
  exact ⟨_, _, st fs hr, hrun, hended, _, _, rfl, (eT ▸ hQ : Q v T.heap locs), ⟨_, rfl⟩, hW, hsame.mono hk hn⟩
theorem own_retV (X : Stand p l e R s m args below meth c T locs cells slots) (hP : P = own_P below s Q kc ns) (hx : p.tables.exec = Jvm.exec) (hlk : meth.locks = false) (eT : T.heap = h) {pc : Nat} {Ls : Array Slot} (hret : meth.sig.returnType = none) (hd : decode c.code pc = .ok (.return_, 1)) (hk : cells ≤ kc) (hn : slots ≤ ns) (hQ : Q none h locs) :
    own_End p e below P T (mkF m pc Ls []) := own_ret X hP hlk eT (fun _ => rfl) hk hn hQ fun _ hr => X.returnOut hx hret hd hr
theorem own_retI (X : Stand p l e R s m args below meth c T locs cells slots) (hP : P = own_P below s Q kc ns) (hx : p.tables.exec = Jvm.exec) (hlk : meth.locks = false) (eT : T.heap = h) {pc : Nat} {Ls : Array Slot} {z : Int32} {rest : List Value} (hret : meth.sig.returnType = some .int) (hd : decode c.code pc = .ok (.ireturn, 1)) (hk : cells ≤ kc) (hn : slots ≤ ns) (hQ : Q (some (.int z)) h locs) :
    own_End p e below P T (mkF m pc Ls (.int z :: rest)) := own_ret X hP hlk eT (fun h => by rw [hret] at h; cases h) hk hn hQ fun fs hr => retOut X hx hret rfl (Or.inl ⟨rfl, Or.inl rfl, z, rfl⟩) hd hr
theorem own_retN (X : Stand p l e R s m args below meth c T locs cells slots) (hP : P = own_P below s Q kc ns) (hx : p.tables.exec = Jvm.exec) (hlk : meth.locks = false) (eT : T.heap = h) {pc : Nat} {Ls : Array Slot} {z : Int32} {rest : List Value} {t : FieldType} (hret : meth.sig.returnType = some t) (ht : t = .boolean ∨ t = .byte ∨ t = .char ∨ t = .short) (hd : decode c.code pc = .ok (.ireturn, 1)) (hk : cells ≤ kc) (hn : slots ≤ ns) {z' : Int32} (hz : nar t z = z') (hQ : Q (some (.int z')) h locs) :
    own_End p e below P T (mkF m pc Ls (.int z :: rest)) := by
  subst hz
  exact own_ret X hP hlk eT (fun h => by rw [hret] at h; cases h) hk hn hQ fun fs hr => retN X hx hret ht hd hr
theorem own_retJ (X : Stand p l e R s m args below meth c T locs cells slots) (hP : P = own_P below s Q kc ns) (hx : p.tables.exec = Jvm.exec) (hlk : meth.locks = false) (eT : T.heap = h) {pc : Nat} {Ls : Array Slot} {z : Int64} {rest : List Value} (hret : meth.sig.returnType = some .long) (hd : decode c.code pc = .ok (.lreturn, 1)) (hk : cells ≤ kc) (hn : slots ≤ ns) (hQ : Q (some (.long z)) h locs) :
    own_End p e below P T (mkF m pc Ls (.long z :: rest)) := own_ret X hP hlk eT (fun h => by rw [hret] at h; cases h) hk hn hQ fun fs hr => retOut X hx hret rfl (Or.inr (Or.inl ⟨rfl, rfl, z, rfl⟩)) hd hr
theorem own_retA (X : Stand p l e R s m args below meth c T locs cells slots) (hP : P = own_P below s Q kc ns) (hx : p.tables.exec = Jvm.exec) (hlk : meth.locks = false) (eT : T.heap = h) {pc : Nat} {Ls : Array Slot} {w : Value} {rest : List Value} {t : FieldType} (hret : meth.sig.returnType = some t) (ht : t.isReference = true) (hw : w.isRef = true) (hnr : narrow t w = w) (hd : decode c.code pc = .ok (.areturn, 1)) (hk : cells ≤ kc) (hn : slots ≤ ns) (hQ : Q (some w) h locs) :
    own_End p e below P T (mkF m pc Ls (w :: rest)) := own_ret X hP hlk eT (fun h => by rw [hret] at h; cases h) hk hn hQ fun fs hr => retOut X hx hret hnr (Or.inr (Or.inr (Or.inr (Or.inr ⟨rfl, ht, hw⟩)))) hd hr
theorem own_callS (X : Stand p l e R s m args below meth c T locs cells slots) (hx : p.tables.exec = Jvm.exec) (hZ : Z.Warmed39 s.vm) {own : String} (hown : s.vm.findClass own = some m.cls) (eT : T.heap = h) {index : Nat} {y : MethodName} {bytes : ByteArray} {maxL : Nat} {ret : Option FieldType} {rm : Room} {as' : Array Value} {Q' : Option Value → Heap → List Loc → Prop}
    (w1 : (Cond.methodLink own index y).before a0 Z = true) (w2 : (Cond.static y).before a0 Z = true) (w3 : (Cond.initialized y.cls).before a0 Z = true) (w4 : (Cond.code y bytes maxL ret).before a0 Z = true) (hy : y.cls ≠ "java/lang/invoke/MethodHandle" ∧ y.cls ≠ "java/lang/invoke/VarHandle")
    (hM : own_Met l Z y bytes maxL ret [] rm as' h Q') {g : JFrame} (hg : g.method = m) (hsize : g.locals.size = c.maxLocals) {argsL rest : List Value} (hlen : ∀ sig, parseMethodDescriptor y.desc = some sig → argsL.length = sig.parameters.length) (hstack : g.stack = argsL.reverse ++ rest) (has : argsL.toArray = as') {W : Nat} (hW : 2 * g.monitorRoom + (rest.map fun v => v.category).sum ≤ W) (hdg : decode c.code g.pc = .ok (.invokestatic index, 3))
    (hf : rm.frames + 1 ≤ R.frames) (hl : W + (maxL + 11) + rm.locals ≤ R.locals) (hc : cells + rm.cells ≤ R.cells) (hs : slots + rm.slots ≤ R.slots)
    (k : ∀ v T' L, Stand p l e R s m args below meth c T' (locs ++ L) (cells + rm.cells) (slots + rm.slots) → Q' v T'.heap L → own_End p e below P T' { g with pc := g.pc + 3, stack := v.toList ++ rest }) : own_End p e below P T g := by
  obtain ⟨v, vm1, ⟨T', L1, k1, n1⟩, -, X', ⟨L, hQ, l1, y1, z1⟩, st⟩ := Jvm.LawKit.callS X hx (y := y) hown (mvT hZ w1) (mvT hZ w2) (mvT hZ w3) (mvT hZ w4) hy (backOf (W := W) hM hZ w4 w3 hf hl) hg hsize hlen hstack hW hdg (fun _ _ => ⟨has, eT, hc, hs⟩)
  dsimp only [Pt.U, Pt.locs, Pt.cells, Pt.slots] at X' l1 y1 z1 st hQ
  subst l1 y1 z1
  exact own_go st (k v T' L X' hQ)
theorem own_callC (X : Stand p l e R s m args below meth c T locs cells slots) (hx : p.tables.exec = Jvm.exec) (hZ : Z.Warmed39 s.vm) {own : String} (hown : s.vm.findClass own = some m.cls) (eT : T.heap = h) {index : Nat} {y : MethodName} {bytes : ByteArray} {maxL : Nat} {rm : Room} {as' : Array Value} {Q' : Option Value → Heap → List Loc → Prop}
    (hyi : y.name = "<init>") (w1 : (Cond.methodLink own index y).before a0 Z = true) (w2 : (Cond.instanceMethod y).before a0 Z = true) (w3 : (Cond.initialized y.cls).before a0 Z = true) (w4 : (Cond.code y bytes maxL none).before a0 Z = true) (hy : y.cls ≠ "java/lang/invoke/MethodHandle" ∧ y.cls ≠ "java/lang/invoke/VarHandle")
    (hM : own_Met l Z y bytes maxL none [] rm as' h Q') {g : JFrame} (hg : g.method = m) (hsize : g.locals.size = c.maxLocals) {a : Addr} {argsL rest : List Value} (hlen : ∀ sig, parseMethodDescriptor y.desc = some sig → argsL.length = sig.parameters.length) (hstack : g.stack = argsL.reverse ++ .ref a :: rest) (has : (.ref a :: argsL).toArray = as') {W : Nat} (hW : 2 * g.monitorRoom + (rest.map fun v => v.category).sum ≤ W) (hdg : decode c.code g.pc = .ok (.invokespecial index, 3))
    (hf : rm.frames + 1 ≤ R.frames) (hl : W + (maxL + 11) + rm.locals ≤ R.locals) (hc : cells + rm.cells ≤ R.cells) (hs : slots + rm.slots ≤ R.slots)
    (k : ∀ v T' L, Stand p l e R s m args below meth c T' (locs ++ L) (cells + rm.cells) (slots + rm.slots) → Q' v T'.heap L → own_End p e below P T' { g with pc := g.pc + 3, stack := v.toList ++ rest }) : own_End p e below P T g := by
  obtain ⟨v, vm1, ⟨T', L1, k1, n1⟩, -, X', ⟨L, hQ, l1, y1, z1⟩, st⟩ := X.specialBack hx (y := y) hyi hown (mvT hZ w1) (mvT hZ w2) (mvT hZ w4) hy (backOf (W := W) hM hZ w4 w3 hf hl) hg hsize (Steps.refl _) (a := a) hlen hstack hW hdg (fun _ _ => ⟨has, eT, hc, hs⟩)
  dsimp only [Pt.U, Pt.locs, Pt.cells, Pt.slots] at X' l1 y1 z1 st hQ
  subst l1 y1 z1
  exact own_via st (k v T' L X' hQ)
theorem own_callV (X : Stand p l e R s m args below meth c T locs cells slots) (hx : p.tables.exec = Jvm.exec) (hZ : Z.Warmed39 s.vm) {own : String} (hown : s.vm.findClass own = some m.cls) (eT : T.heap = h) {index : Nat} {C : String} {y z : MethodName} {bytes : ByteArray} {maxL : Nat} {ret : Option FieldType} {rm : Room} {as' : Array Value} {Q' : Option Value → Heap → List Loc → Prop}
    (w1 : (Cond.methodLink own index y).before a0 Z = true) (wd : (Cond.declares y).before a0 Z = true) (hnf : NotFace s y) (wsel : (Cond.selects C y z).before a0 Z = true) (w2 : (Cond.instanceMethod z).before a0 Z = true) (w3 : (Cond.initialized z.cls).before a0 Z = true) (w4 : (Cond.code z bytes maxL ret).before a0 Z = true) (hy : y.cls ≠ "java/lang/invoke/MethodHandle" ∧ y.cls ≠ "java/lang/invoke/VarHandle")
    (hM : own_Met l Z z bytes maxL ret [] rm as' h Q') {a : Addr} (E : Exa Z h a C) {g : JFrame} (hg : g.method = m) (hsize : g.locals.size = c.maxLocals) {argsL rest : List Value} (hlen : ∀ sig, parseMethodDescriptor y.desc = some sig → argsL.length = sig.parameters.length) (hstack : g.stack = argsL.reverse ++ .ref a :: rest) (has : (.ref a :: argsL).toArray = as') {W : Nat} (hW : 2 * g.monitorRoom + (rest.map fun v => v.category).sum ≤ W) (hdg : decode c.code g.pc = .ok (.invokevirtual index, 3))
    (hf : rm.frames + 1 ≤ R.frames) (hl : W + (maxL + 11) + rm.locals ≤ R.locals) (hc : cells + rm.cells ≤ R.cells) (hs : slots + rm.slots ≤ R.slots)
    (k : ∀ v T' L, Stand p l e R s m args below meth c T' (locs ++ L) (cells + rm.cells) (slots + rm.slots) → Q' v T'.heap L → own_End p e below P T' { g with pc := g.pc + 3, stack := v.toList ++ rest }) : own_End p e below P T g := by
  obtain ⟨cB, kB, q1, q2, q3⟩ := isOf (T := T) hZ eT E
  obtain ⟨v, vm1, ⟨T', L1, k1, n1⟩, -, X', ⟨L, hQ, l1, y1, z1⟩, st⟩ := X.virtualBack hx (y := y) (z := z) hown (mvT hZ w1) (mvT hZ wd) hnf (mvT hZ wsel) (mvT hZ w2) hy (backOf (W := W) hM hZ w4 w3 hf hl) q1 q3 hg hsize (Steps.refl _) hlen hstack hW hdg (fun _ _ => ⟨has, eT, hc, hs⟩)
  dsimp only [Pt.U, Pt.locs, Pt.cells, Pt.slots] at X' l1 y1 z1 st hQ
  subst l1 y1 z1
  exact own_via st (k v T' L X' hQ)
theorem own_selP {C : String} {x' y y' : MethodName} (wz : (Cond.selects C x' y').before args s = true) (hc : y'.cls = y.cls) (hpriv : s.PrivateAt y) (hinst : (Cond.instanceMethod y).before args s = true) (hy : y.cls ≠ "java/lang/invoke/MethodHandle" ∧ y.cls ≠ "java/lang/invoke/VarHandle") : (Cond.selects y.cls y y).before args s = true := by
  obtain ⟨_, _, m2, -, -, q3, -, kP, hkP, hkPi⟩ := Cond.selects_spec wz
  exact selects_self_of_private (by rw [← hc]; exact findClass_of_methodNamed q3) hkP hkPi hpriv hinst hy
theorem own_callP (X : Stand p l e R s m args below meth c T locs cells slots) (hx : p.tables.exec = Jvm.exec) (hZ : Z.Warmed39 s.vm) {own : String} (hown : s.vm.findClass own = some m.cls) (eT : T.heap = h) {index : Nat} {y : MethodName} {bytes : ByteArray} {maxL : Nat} {ret : Option FieldType} {rm : Room} {as' : Array Value} {Q' : Option Value → Heap → List Loc → Prop}
    (w1 : (Cond.methodLink own index y).before a0 Z = true) (w2 : (Cond.instanceMethod y).before a0 Z = true) (wsel : (Cond.selects y.cls y y).before args s = true) (wp : (Cond.privateMethod y).before a0 Z = true) (w3 : (Cond.initialized y.cls).before a0 Z = true) (w4 : (Cond.code y bytes maxL ret).before a0 Z = true) (hy : y.cls ≠ "java/lang/invoke/MethodHandle" ∧ y.cls ≠ "java/lang/invoke/VarHandle")
    (hM : own_Met l Z y bytes maxL ret [] rm as' h Q') {C : String} {a : Addr} (E : Exa Z h a C) {g : JFrame} (hg : g.method = m) (hsize : g.locals.size = c.maxLocals) {argsL rest : List Value} (hlen : ∀ sig, parseMethodDescriptor y.desc = some sig → argsL.length = sig.parameters.length) (hstack : g.stack = argsL.reverse ++ .ref a :: rest) (has : (.ref a :: argsL).toArray = as') {W : Nat} (hW : 2 * g.monitorRoom + (rest.map fun v => v.category).sum ≤ W) (hdg : decode c.code g.pc = .ok (.invokevirtual index, 3))
    (hf : rm.frames + 1 ≤ R.frames) (hl : W + (maxL + 11) + rm.locals ≤ R.locals) (hc : cells + rm.cells ≤ R.cells) (hs : slots + rm.slots ≤ R.slots)
    (k : ∀ v T' L, Stand p l e R s m args below meth c T' (locs ++ L) (cells + rm.cells) (slots + rm.slots) → Q' v T'.heap L → own_End p e below P T' { g with pc := g.pc + 3, stack := v.toList ++ rest }) : own_End p e below P T g := by
  obtain ⟨cq, q1, q2⟩ := E.cell
  obtain ⟨v, vm1, ⟨T', L1, k1, n1⟩, -, X', ⟨L, hQ, l1, y1, z1⟩, st⟩ := X.privateBack hx (y := y) hown (mvT hZ w1) (mvT hZ w2) wsel (Cond.privateMethod_at (mvP hZ wp (args := #[]))) (mvT hZ w4) hy (backOf (W := W) hM hZ w4 w3 hf hl) hg hsize (Steps.refl _) (a := a) (by rw [eT]; exact q1) q2 hlen hstack hW hdg (fun _ _ => ⟨has, eT, hc, hs⟩)
  dsimp only [Pt.U, Pt.locs, Pt.cells, Pt.slots] at X' l1 y1 z1 st hQ
  subst l1 y1 z1
  exact own_via st (k v T' L X' hQ)
end OwnSteps
/-! own: a truth as an int; comparisons of longs -/
def own_z (P : Prop) [Decidable P] : Int32 := if P then 1 else 0
section OwnTruth
variable {P : Prop} [Decidable P] {x y : Int64}
theorem own_z_t (h : P) : own_z P = 1 := if_pos h
theorem own_z_f (h : ¬ P) : own_z P = 0 := if_neg h
theorem own_z_nar : nar .boolean (own_z P) = own_z P := by unfold own_z; split <;> decide
theorem own_z_congr {P' : Prop} [Decidable P'] (h : P ↔ P') : own_z P = own_z P' := by unfold own_z; by_cases q : P <;> simp [q, h.symm, h.mp] <;> simp_all
theorem own_z_inj {P' : Prop} [Decidable P'] (h : own_z P = own_z P') : P ↔ P' := by
  unfold own_z at h; by_cases q : P <;> by_cases q' : P' <;> simp_all
theorem own_zY_eq (h : ¬ P) : ifCond.holds .eq (own_z P) = true := by rw [own_z_f h]; rfl
theorem own_zN_eq (h : P) : ifCond.holds .eq (own_z P) = false := by rw [own_z_t h]; rfl
theorem own_zY_ne (h : P) : ifCond.holds .ne (own_z P) = true := by rw [own_z_t h]; rfl
theorem own_zN_ne (h : ¬ P) : ifCond.holds .ne (own_z P) = false := by rw [own_z_f h]; rfl
theorem own_lY_lt (h : x < y) : ifCond.holds .lt (lcmpW x y) = true := (if0 _ _).trans (tlt ((lw_lt x y).mpr h)).1
theorem own_lN_lt (h : ¬ x < y) : ifCond.holds .lt (lcmpW x y) = false := (if0 _ _).trans (flt (mt (lw_lt x y).mp h)).1
theorem own_lY_ge (h : ¬ x < y) : ifCond.holds .ge (lcmpW x y) = true := (if0 _ _).trans (flt (mt (lw_lt x y).mp h)).2.1
theorem own_lN_ge (h : x < y) : ifCond.holds .ge (lcmpW x y) = false := (if0 _ _).trans (tlt ((lw_lt x y).mpr h)).2.1
theorem own_lY_gt (h : y < x) : ifCond.holds .gt (lcmpW x y) = true := (if0 _ _).trans (tlt ((lw_gt x y).mpr h)).2.2.1
theorem own_lN_gt (h : ¬ y < x) : ifCond.holds .gt (lcmpW x y) = false := (if0 _ _).trans (flt (mt (lw_gt x y).mp h)).2.2.1
theorem own_lY_le (h : ¬ y < x) : ifCond.holds .le (lcmpW x y) = true := (if0 _ _).trans (flt (mt (lw_gt x y).mp h)).2.2.2
theorem own_lN_le (h : y < x) : ifCond.holds .le (lcmpW x y) = false := (if0 _ _).trans (tlt ((lw_gt x y).mpr h)).2.2.2
theorem own_lY_eq (h : x = y) : ifCond.holds .eq (lcmpW x y) = true := (if0 _ _).trans (teq ((lw_eq x y).mpr h)).1
theorem own_lN_eq (h : ¬ x = y) : ifCond.holds .eq (lcmpW x y) = false := (if0 _ _).trans (feq (mt (lw_eq x y).mp h)).1
theorem own_lY_ne (h : ¬ x = y) : ifCond.holds .ne (lcmpW x y) = true := (if0 _ _).trans (feq (mt (lw_eq x y).mp h)).2
theorem own_lN_ne (h : x = y) : ifCond.holds .ne (lcmpW x y) = false := (if0 _ _).trans (teq ((lw_eq x y).mpr h)).2
end OwnTruth
/-! own: a callee that writes nothing -/
def own_Pq (val : Option Value) (h : Heap) : Option Value → Heap → List Loc → Prop := fun v h' L => v = val ∧ L = [] ∧ h' = h
section OwnPure
variable {p : Program} {l : Launch} {e : Env} {R : Room} {s : State} {m : MethodId} {args : Array Value} {below : List Frame} {meth : Method} {c : Code} {T : State} {locs : List Loc} {cells slots : Nat} {P : State → Outcome → Prop} {Q : Option Value → Heap → List Loc → Prop} {kc ns : Nat} {Z : State} {a0 : Array Value} {h : Heap} {f : JFrame}
theorem own_callSp (X : Stand p l e R s m args below meth c T locs cells slots) (hx : p.tables.exec = Jvm.exec) (hZ : Z.Warmed39 s.vm) {own : String} (hown : s.vm.findClass own = some m.cls) (eT : T.heap = h) {index : Nat} {y : MethodName} {bytes : ByteArray} {maxL : Nat} {ret : Option FieldType} {fr lo : Nat} {as' : Array Value} {val : Option Value}
    (w1 : (Cond.methodLink own index y).before a0 Z = true) (w2 : (Cond.static y).before a0 Z = true) (w3 : (Cond.initialized y.cls).before a0 Z = true) (w4 : (Cond.code y bytes maxL ret).before a0 Z = true) (hy : y.cls ≠ "java/lang/invoke/MethodHandle" ∧ y.cls ≠ "java/lang/invoke/VarHandle")
    (hM : own_Met l Z y bytes maxL ret [] { frames := fr, cells := 0, slots := 0, locals := lo } as' h (own_Pq val h)) {g : JFrame} (hg : g.method = m) (hsize : g.locals.size = c.maxLocals) {argsL rest : List Value} (hlen : ∀ sig, parseMethodDescriptor y.desc = some sig → argsL.length = sig.parameters.length) (hstack : g.stack = argsL.reverse ++ rest) (has : argsL.toArray = as') {W : Nat} (hW : 2 * g.monitorRoom + (rest.map fun v => v.category).sum ≤ W) (hdg : decode c.code g.pc = .ok (.invokestatic index, 3))
    (hf : fr + 1 ≤ R.frames) (hl : W + (maxL + 11) + lo ≤ R.locals) (hc : cells ≤ R.cells) (hs : slots ≤ R.slots)
    (k : ∀ T', Stand p l e R s m args below meth c T' locs cells slots → T'.heap = h → own_End p e below P T' { g with pc := g.pc + 3, stack := val.toList ++ rest }) : own_End p e below P T g :=
  own_callS X hx hZ hown eT w1 w2 w3 w4 hy hM hg hsize hlen hstack has hW hdg hf hl hc hs fun v T' L X' ⟨q1, q2, q3⟩ => by
    subst q1 q2
    rw [List.append_nil] at X'
    exact k T' X' q3
theorem own_callCp (X : Stand p l e R s m args below meth c T locs cells slots) (hx : p.tables.exec = Jvm.exec) (hZ : Z.Warmed39 s.vm) {own : String} (hown : s.vm.findClass own = some m.cls) (eT : T.heap = h) {index : Nat} {y : MethodName} {bytes : ByteArray} {maxL : Nat} {fr lo : Nat} {as' : Array Value} {val : Option Value}
    (hyi : y.name = "<init>") (w1 : (Cond.methodLink own index y).before a0 Z = true) (w2 : (Cond.instanceMethod y).before a0 Z = true) (w3 : (Cond.initialized y.cls).before a0 Z = true) (w4 : (Cond.code y bytes maxL none).before a0 Z = true) (hy : y.cls ≠ "java/lang/invoke/MethodHandle" ∧ y.cls ≠ "java/lang/invoke/VarHandle")
    (hM : own_Met l Z y bytes maxL none [] { frames := fr, cells := 0, slots := 0, locals := lo } as' h (own_Pq val h)) {g : JFrame} (hg : g.method = m) (hsize : g.locals.size = c.maxLocals) {a : Addr} {argsL rest : List Value} (hlen : ∀ sig, parseMethodDescriptor y.desc = some sig → argsL.length = sig.parameters.length) (hstack : g.stack = argsL.reverse ++ .ref a :: rest) (has : (.ref a :: argsL).toArray = as') {W : Nat} (hW : 2 * g.monitorRoom + (rest.map fun v => v.category).sum ≤ W) (hdg : decode c.code g.pc = .ok (.invokespecial index, 3))
    (hf : fr + 1 ≤ R.frames) (hl : W + (maxL + 11) + lo ≤ R.locals) (hc : cells ≤ R.cells) (hs : slots ≤ R.slots)
    (k : ∀ T', Stand p l e R s m args below meth c T' locs cells slots → T'.heap = h → own_End p e below P T' { g with pc := g.pc + 3, stack := val.toList ++ rest }) : own_End p e below P T g :=
  own_callC X hx hZ hown eT hyi w1 w2 w3 w4 hy hM hg hsize hlen hstack has hW hdg hf hl hc hs fun v T' L X' ⟨q1, q2, q3⟩ => by
    subst q1 q2
    rw [List.append_nil] at X'
    exact k T' X' q3
theorem own_callVp (X : Stand p l e R s m args below meth c T locs cells slots) (hx : p.tables.exec = Jvm.exec) (hZ : Z.Warmed39 s.vm) {own : String} (hown : s.vm.findClass own = some m.cls) (eT : T.heap = h) {index : Nat} {C : String} {y z : MethodName} {bytes : ByteArray} {maxL : Nat} {ret : Option FieldType} {fr lo : Nat} {as' : Array Value} {val : Option Value}
    (w1 : (Cond.methodLink own index y).before a0 Z = true) (wd : (Cond.declares y).before a0 Z = true) (hnf : NotFace s y) (wsel : (Cond.selects C y z).before a0 Z = true) (w2 : (Cond.instanceMethod z).before a0 Z = true) (w3 : (Cond.initialized z.cls).before a0 Z = true) (w4 : (Cond.code z bytes maxL ret).before a0 Z = true) (hy : y.cls ≠ "java/lang/invoke/MethodHandle" ∧ y.cls ≠ "java/lang/invoke/VarHandle")
    (hM : own_Met l Z z bytes maxL ret [] { frames := fr, cells := 0, slots := 0, locals := lo } as' h (own_Pq val h)) {a : Addr} (E : Exa Z h a C) {g : JFrame} (hg : g.method = m) (hsize : g.locals.size = c.maxLocals) {argsL rest : List Value} (hlen : ∀ sig, parseMethodDescriptor y.desc = some sig → argsL.length = sig.parameters.length) (hstack : g.stack = argsL.reverse ++ .ref a :: rest) (has : (.ref a :: argsL).toArray = as') {W : Nat} (hW : 2 * g.monitorRoom + (rest.map fun v => v.category).sum ≤ W) (hdg : decode c.code g.pc = .ok (.invokevirtual index, 3))
    (hf : fr + 1 ≤ R.frames) (hl : W + (maxL + 11) + lo ≤ R.locals) (hc : cells ≤ R.cells) (hs : slots ≤ R.slots)
    (k : ∀ T', Stand p l e R s m args below meth c T' locs cells slots → T'.heap = h → own_End p e below P T' { g with pc := g.pc + 3, stack := val.toList ++ rest }) : own_End p e below P T g :=
  own_callV X hx hZ hown eT w1 wd hnf wsel w2 w3 w4 hy hM E hg hsize hlen hstack has hW hdg hf hl hc hs fun v T' L X' ⟨q1, q2, q3⟩ => by
    subst q1 q2
    rw [List.append_nil] at X'
    exact k T' X' q3
theorem own_callPp (X : Stand p l e R s m args below meth c T locs cells slots) (hx : p.tables.exec = Jvm.exec) (hZ : Z.Warmed39 s.vm) {own : String} (hown : s.vm.findClass own = some m.cls) (eT : T.heap = h) {index : Nat} {y : MethodName} {bytes : ByteArray} {maxL : Nat} {ret : Option FieldType} {fr lo : Nat} {as' : Array Value} {val : Option Value}
    (w1 : (Cond.methodLink own index y).before a0 Z = true) (w2 : (Cond.instanceMethod y).before a0 Z = true) (wsel : (Cond.selects y.cls y y).before args s = true) (wp : (Cond.privateMethod y).before a0 Z = true) (w3 : (Cond.initialized y.cls).before a0 Z = true) (w4 : (Cond.code y bytes maxL ret).before a0 Z = true) (hy : y.cls ≠ "java/lang/invoke/MethodHandle" ∧ y.cls ≠ "java/lang/invoke/VarHandle")
    (hM : own_Met l Z y bytes maxL ret [] { frames := fr, cells := 0, slots := 0, locals := lo } as' h (own_Pq val h)) {C : String} {a : Addr} (E : Exa Z h a C) {g : JFrame} (hg : g.method = m) (hsize : g.locals.size = c.maxLocals) {argsL rest : List Value} (hlen : ∀ sig, parseMethodDescriptor y.desc = some sig → argsL.length = sig.parameters.length) (hstack : g.stack = argsL.reverse ++ .ref a :: rest) (has : (.ref a :: argsL).toArray = as') {W : Nat} (hW : 2 * g.monitorRoom + (rest.map fun v => v.category).sum ≤ W) (hdg : decode c.code g.pc = .ok (.invokevirtual index, 3))
    (hf : fr + 1 ≤ R.frames) (hl : W + (maxL + 11) + lo ≤ R.locals) (hc : cells ≤ R.cells) (hs : slots ≤ R.slots)
    (k : ∀ T', Stand p l e R s m args below meth c T' locs cells slots → T'.heap = h → own_End p e below P T' { g with pc := g.pc + 3, stack := val.toList ++ rest }) : own_End p e below P T g :=
  own_callP X hx hZ hown eT w1 w2 wsel wp w3 w4 hy hM E hg hsize hlen hstack has hW hdg hf hl hc hs fun v T' L X' ⟨q1, q2, q3⟩ => by
    subst q1 q2
    rw [List.append_nil] at X'
    exact k T' X' q3
end OwnPure
/-! own: a cell that is known -/
def own_K (h : Heap) (a : Addr) : Prop := ∃ cell : Cell, h[a]? = some cell ∧ cell.vm ≠ .unknown
theorem own_K_ext {h h' : Heap} {a : Addr} (K : own_K h a) (E : Ext h h') : own_K h' a := by obtain ⟨c, h1, h2⟩ := K; exact ⟨c, E.2 _ _ h1, h2⟩
theorem own_K_wr {h h' : Heap} {a b : Addr} {sl : Nat} {v : Value} (K : own_K h b) (W : Wr h h' a sl v) : own_K h' b := by
  obtain ⟨c, h1, h2⟩ := K
  obtain ⟨c', e1, -, e3, -⟩ := wr_at W h1
  exact ⟨c', e1, by rw [e3]; exact h2⟩
theorem own_K_keep {h h' : Heap} {a : Addr} {ws : List Addr} (K : own_K h a) (E : Keep h h' ws) : own_K h' a := by
  obtain ⟨c, h1, h2⟩ := K
  obtain ⟨c', e1, -, e3, -⟩ := E.2.2 _ _ h1
  exact ⟨c', e1, by rw [e3]; exact h2⟩
theorem own_K_new {h : Heap} {a : Addr} (U : ∃ cell : Cell, h[a]? = some cell ∧ cell.vm = .none ∧ cell.monitor = {}) : own_K h a := by
  obtain ⟨c, h1, h2, -⟩ := U
  exact ⟨c, h1, by rw [h2]; simp⟩
/-! own: an array of n places, place i holds f i -/
def own_A (Z : State) (h : Heap) (a : Addr) (ty : FieldType) (n : Nat) (f : Nat → Value) : Prop := ∃ c : Cell, Arr Z h a c ty ∧ c.slots.size = n ∧ n < 2147483648 ∧ ∀ i, i < n → c.slots[i]? = some (f i)
abbrev own_AJ (Z : State) (h : Heap) (a : Addr) (n : Nat) (f : Nat → Int64) : Prop := own_A Z h a .long n (fun i => .long (f i))
abbrev own_AI (Z : State) (h : Heap) (a : Addr) (n : Nat) (f : Nat → Int32) : Prop := own_A Z h a .int n (fun i => .int (f i))
abbrev own_AB (Z : State) (h : Heap) (a : Addr) (n : Nat) (f : Nat → Int32) : Prop := own_A Z h a .byte n (fun i => .int (f i))
def own_set {α : Type} (f : Nat → α) (i : Nat) (x : α) : Nat → α := fun k => if k = i then x else f k
theorem own_set_eq {α : Type} {f : Nat → α} {i k : Nat} {x : α} (h : k = i) : own_set f i x k = x := if_pos h
theorem own_set_ne {α : Type} {f : Nat → α} {i k : Nat} {x : α} (h : k ≠ i) : own_set f i x k = f k := if_neg h
section OwnArr
variable {Z : State} {h h' : Heap} {a b : Addr} {ty : FieldType} {n : Nat} {f f' : Nat → Value}
theorem own_A.lt (A : own_A Z h a ty n f) : a < h.size := by obtain ⟨c, A, -⟩ := A; exact A.lt
theorem own_A.ext (A : own_A Z h a ty n f) (E : Ext h h') : own_A Z h' a ty n f := by obtain ⟨c, A, r⟩ := A; exact ⟨c, A.ext E, r⟩
theorem own_A.other {sl : Nat} {v : Value} (A : own_A Z h b ty n f) (W : Wr h h' a sl v) (q : b ≠ a) : own_A Z h' b ty n f := by obtain ⟨c, A, r⟩ := A; exact ⟨c, A.other W q, r⟩
theorem own_A.keep {ws : List Addr} (A : own_A Z h a ty n f) (K : Keep h h' ws) (q : a ∉ ws) : own_A Z h' a ty n f := by obtain ⟨c, A, r⟩ := A; exact ⟨c, ⟨K.2.1 a c A.1 q, A.2⟩, r⟩
theorem own_A.congr (A : own_A Z h a ty n f) (q : ∀ i, i < n → f i = f' i) : own_A Z h a ty n f' := by obtain ⟨c, A, r1, r2, r3⟩ := A; exact ⟨c, A, r1, r2, fun i hi => by rw [← q i hi]; exact r3 i hi⟩
theorem own_nat {j : Int32} {i : Nat} (hj : j.toInt = (i : Int)) : j.toNatClampNeg = i := by
  show j.toInt.toNat = i
  rw [hj]; rfl
theorem own_in {c : Cell} {j : Int32} {i : Nat} (S : c.slots.size = n) (hj : j.toInt = (i : Int)) (hi : i < n) : ¬ (j < 0 ∨ c.slots.size ≤ j.toNatClampNeg) := by
  rw [own_nat hj, S, Int32.lt_iff_toInt_lt, hj, show (0 : Int32).toInt = 0 from rfl]; omega
theorem own_A_new {cA : ClassId} {z : Int32} (A : Arr Z h a (newA cA ty z) ty) (hz : z.toInt = (n : Int)) : own_A Z h a ty n (fun _ => defaultValue ty) := by
  have hn : z.toNatClampNeg = n := own_nat hz
  have hl := z.toInt_lt
  refine ⟨_, A, by rw [sz_new]; exact hn, by omega, fun i hi => ?_⟩
  simp [newA, hn, hi]
theorem own_A_set {j : Int32} {i : Nat} {v : Value} (A : own_A Z h a ty n f) (W : Wr h h' a j.toNatClampNeg v) (hj : j.toInt = (i : Int)) (hi : i < n) : own_A Z h' a ty n (own_set f i v) := by
  obtain ⟨c, A, r1, r2, r3⟩ := A
  rw [own_nat hj] at W
  refine ⟨_, A.same W, by rw [sz_set]; exact r1, r2, fun k hk => ?_⟩
  show (c.slots.setIfInBounds i v)[k]? = some (if k = i then v else f k)
  by_cases q : k = i
  · subst q; rw [if_pos rfl]; simp [r1, hi]
  · rw [if_neg q, Array.getElem?_setIfInBounds_ne (Ne.symm q)]; exact r3 k hk
end OwnArr
section OwnArrSteps
variable {p : Program} {l : Launch} {e : Env} {R : Room} {s : State} {m : MethodId} {args : Array Value} {below : List Frame} {meth : Method} {c : Code} {T : State} {locs : List Loc} {cells slots : Nat} {Z : State} {a0 : Array Value} {h : Heap} {a : Addr} {n i : Nat} {j : Int32} {g : JFrame} {rest : List Value}
theorem own_laload (X : Stand p l e R s m args below meth c T locs cells slots) (hx : p.tables.exec = Jvm.exec) (hZ : Z.Warmed39 s.vm) (eT : T.heap = h) {f : Nat → Int64} (A : own_AJ Z h a n f) (hj : j.toInt = (i : Int)) (hi : i < n) (hg : g.method = m) (hs : g.stack = .int j :: .ref a :: rest) (hd : decode c.code g.pc = .ok (.laload, 1)) :
    ∀ target, Steps p.tables e below (T.setTop { g with pc := g.pc + 1, stack := .long (f i) :: rest }) target → Steps p.tables e below (T.setTop g) target := by
  obtain ⟨cl, A, r1, r2, r3⟩ := A
  exact X.laload hx (j := j) (v := .long (f i)) (by rw [eT]; exact A.1) (State.isArrayOf_alike hZ.alike A.2.1) A.2.2 (own_in r1 hj hi) (by rw [own_nat hj]; exact r3 i hi) hg hs hd
theorem own_iaload (X : Stand p l e R s m args below meth c T locs cells slots) (hx : p.tables.exec = Jvm.exec) (hZ : Z.Warmed39 s.vm) (eT : T.heap = h) {f : Nat → Int32} (A : own_AI Z h a n f) (hj : j.toInt = (i : Int)) (hi : i < n) (hg : g.method = m) (hs : g.stack = .int j :: .ref a :: rest) (hd : decode c.code g.pc = .ok (.iaload, 1)) :
    ∀ target, Steps p.tables e below (T.setTop { g with pc := g.pc + 1, stack := .int (f i) :: rest }) target → Steps p.tables e below (T.setTop g) target := by
  obtain ⟨cl, A, r1, r2, r3⟩ := A
  exact X.iaload hx (j := j) (v := .int (f i)) (by rw [eT]; exact A.1) (State.isArrayOf_alike hZ.alike A.2.1) A.2.2 (own_in r1 hj hi) (by rw [own_nat hj]; exact r3 i hi) hg hs hd
theorem own_baload (X : Stand p l e R s m args below meth c T locs cells slots) (hx : p.tables.exec = Jvm.exec) (hZ : Z.Warmed39 s.vm) (eT : T.heap = h) {f : Nat → Int32} (A : own_AB Z h a n f) (hj : j.toInt = (i : Int)) (hi : i < n) (hg : g.method = m) (hs : g.stack = .int j :: .ref a :: rest) (hd : decode c.code g.pc = .ok (.baload, 1)) :
    ∀ target, Steps p.tables e below (T.setTop { g with pc := g.pc + 1, stack := .int (f i) :: rest }) target → Steps p.tables e below (T.setTop g) target := by
  obtain ⟨cl, A, r1, r2, r3⟩ := A
  exact X.baloadBytes hx (j := j) (v := .int (f i)) (by rw [eT]; exact A.1) (State.isArrayOf_alike hZ.alike A.2.1) A.2.2 (own_in r1 hj hi) (by rw [own_nat hj]; exact r3 i hi) hg hs hd
theorem own_length (X : Stand p l e R s m args below meth c T locs cells slots) (hx : p.tables.exec = Jvm.exec) (hZ : Z.Warmed39 s.vm) (eT : T.heap = h) {ty : FieldType} {f : Nat → Value} (A : own_A Z h a ty n f) {z : Int32} (hz : z.toInt = (n : Int)) (hg : g.method = m) (hs : g.stack = .ref a :: rest) (hd : decode c.code g.pc = .ok (.arraylength, 1)) :
    ∀ target, Steps p.tables e below (T.setTop { g with pc := g.pc + 1, stack := .int z :: rest }) target → Steps p.tables e below (T.setTop g) target := by
  obtain ⟨cl, A, r1, r2, -⟩ := A
  intro target k
  refine X.arraylength hx (by rw [eT]; exact A.1) (State.isArrayOf_alike hZ.alike A.2.1) hg hs hd _ ?_
  have q : cl.slots.size.toInt32 = z := Int32.toInt_inj.mp (by rw [r1, hz]; exact Int32.toInt_ofNat_of_lt (by omega))
  rw [q]; exact k
theorem own_lastore (X : Stand p l e R s m args below meth c T locs cells slots) (hx : p.tables.exec = Jvm.exec) (hZ : Z.Warmed39 s.vm) (eT : T.heap = h) {f : Nat → Int64} {x : Int64} (A : own_AJ Z h a n f) (hj : j.toInt = (i : Int)) (hi : i < n) (hg : g.method = m) (hs : g.stack = .long x :: .int j :: .ref a :: rest) (hd : decode c.code g.pc = .ok (.lastore, 1)) :
    ∃ T' h', Stand p l e R s m args below meth c T' (locs ++ [⟨a, j.toNatClampNeg⟩]) cells slots ∧ T'.heap = h' ∧ Wr h h' a j.toNatClampNeg (.long x) ∧ own_AJ Z h' a n (own_set f i x) ∧ ∀ target, Steps p.tables e below (T'.setTop { g with pc := g.pc + 1, stack := rest }) target → Steps p.tables e below (T.setTop g) target := by
  obtain ⟨cl, B, r1, r2, r3⟩ := A
  obtain ⟨T', h', X', e', W, st⟩ := stJ X hx hZ eT B (own_in r1 hj hi) hg hs hd
  exact ⟨T', h', X', e', W, (own_A_set ⟨cl, B, r1, r2, r3⟩ W hj hi).congr fun k _ => by unfold own_set; split <;> rfl, st⟩
theorem own_iastore (X : Stand p l e R s m args below meth c T locs cells slots) (hx : p.tables.exec = Jvm.exec) (hZ : Z.Warmed39 s.vm) (eT : T.heap = h) {f : Nat → Int32} {x : Int32} (A : own_AI Z h a n f) (hj : j.toInt = (i : Int)) (hi : i < n) (hg : g.method = m) (hs : g.stack = .int x :: .int j :: .ref a :: rest) (hd : decode c.code g.pc = .ok (.iastore, 1)) :
    ∃ T' h', Stand p l e R s m args below meth c T' (locs ++ [⟨a, j.toNatClampNeg⟩]) cells slots ∧ T'.heap = h' ∧ Wr h h' a j.toNatClampNeg (.int x) ∧ own_AI Z h' a n (own_set f i x) ∧ ∀ target, Steps p.tables e below (T'.setTop { g with pc := g.pc + 1, stack := rest }) target → Steps p.tables e below (T.setTop g) target := by
  obtain ⟨cl, B, r1, r2, r3⟩ := A
  obtain ⟨T', h', X', e', W, st⟩ := stI X hx hZ eT B (own_in r1 hj hi) hg hs hd
  exact ⟨T', h', X', e', W, (own_A_set ⟨cl, B, r1, r2, r3⟩ W hj hi).congr fun k _ => by unfold own_set; split <;> rfl, st⟩
theorem own_bastore (X : Stand p l e R s m args below meth c T locs cells slots) (hx : p.tables.exec = Jvm.exec) (hZ : Z.Warmed39 s.vm) (eT : T.heap = h) {f : Nat → Int32} {x : Int32} (A : own_AB Z h a n f) (hj : j.toInt = (i : Int)) (hi : i < n) (hg : g.method = m) (hs : g.stack = .int x :: .int j :: .ref a :: rest) (hd : decode c.code g.pc = .ok (.bastore, 1)) :
    ∃ T' h', Stand p l e R s m args below meth c T' (locs ++ [⟨a, j.toNatClampNeg⟩]) cells slots ∧ T'.heap = h' ∧ Wr h h' a j.toNatClampNeg (.int (nar .byte x)) ∧ own_AB Z h' a n (own_set f i (x.toInt8.toInt32)) ∧ ∀ target, Steps p.tables e below (T'.setTop { g with pc := g.pc + 1, stack := rest }) target → Steps p.tables e below (T.setTop g) target := by
  obtain ⟨cl, B, r1, r2, r3⟩ := A
  obtain ⟨T', h', X', e', W, st⟩ := stB X hx hZ eT B (own_in r1 hj hi) hg hs hd
  exact ⟨T', h', X', e', W, (own_A_set ⟨cl, B, r1, r2, r3⟩ W hj hi).congr fun k _ => by unfold own_set; split <;> rfl, st⟩
end OwnArrSteps

def own_bit (x : Int64) (i : Nat) : Bool := x.toBitVec.getLsbD i
theorem own_sh {i : Int32} {k : Nat} (h : i.toInt = (k : Int)) (hk : k < 64) : (i &&& 0x3f).toInt64 = Int64.ofNat k := by
  have e : (i &&& 0x3f).toInt = i.toInt % 2 ^ 6 := Jvm.Kit.i32_mask i 0x3f (k := 6) (by decide) (by decide)
  apply Int64.toInt_inj.mp
  rw [Int32.toInt_toInt64, e, Int64.toInt_ofNat_of_lt (by omega)]; omega
theorem own_shu {i : Int32} {k : Nat} (h : i.toInt = (k : Int)) (hk : k < 64) (x : Int64) : ((x.toUInt64 >>> (i &&& 0x3f).toInt64.toUInt64).toInt64).toBitVec = x.toBitVec >>> k := by
  rw [own_sh h hk]
  show (x.toUInt64 >>> (Int64.ofNat k).toUInt64).toBitVec = _
  rw [UInt64.toBitVec_shiftRight]
  have e : ((Int64.ofNat k).toUInt64.toBitVec % 64) = BitVec.ofNat 64 k := by
    apply BitVec.eq_of_toNat_eq
    show ((Int64.ofNat k).toBitVec % 64).toNat = _
    rw [BitVec.toNat_umod]
    show (BitVec.ofNat 64 k).toNat % 64 = _
    rw [BitVec.toNat_ofNat, Nat.mod_eq_of_lt (by omega), Nat.mod_eq_of_lt (by omega)]
  rw [e]
  show x.toBitVec >>> (BitVec.ofNat 64 k) = _
  rw [BitVec.ushiftRight_eq', BitVec.toNat_ofNat, Nat.mod_eq_of_lt (by omega)]
theorem own_b0 {i : Int32} {k : Nat} (h : i.toInt = (k : Int)) (hk : k < 64) (x : Int64) : (((x.toUInt64 >>> (i &&& 0x3f).toInt64.toUInt64).toInt64) &&& (1 : Int64)) = (0 : Int64) ↔ own_bit x k = false := by
  rw [← Int64.toBitVec_inj, Int64.toBitVec_and, own_shu h hk]
  have e : x.toBitVec >>> k &&& (1 : Int64).toBitVec = BitVec.zeroExtend 64 (BitVec.ofBool (own_bit x k)) := by
    apply BitVec.eq_of_getLsbD_eq
    intro j hj
    rw [BitVec.getLsbD_and, BitVec.getLsbD_ushiftRight, show (1 : Int64).toBitVec = 1#64 from rfl, BitVec.getLsbD_one]
    by_cases q : j = 0
    · subst q; simp [own_bit]
    · simp [q]
  rw [e]
  cases own_bit x k <;> decide
theorem own_shl {i : Int32} {k : Nat} (h : i.toInt = (k : Int)) (hk : k < 64) : ((1 : Int64) <<< (i &&& 0x3f).toInt64).toBitVec = 1#64 <<< k := by
  rw [own_sh h hk, Int64.toBitVec_shiftLeft]
  have e : ((Int64.ofNat k).toBitVec.smod 64) = BitVec.ofNat 64 k := by
    have q : ∀ k, k < 64 → ((Int64.ofNat k).toBitVec.smod 64) = BitVec.ofNat 64 k := by decide +kernel
    exact q k hk
  rw [e, BitVec.shiftLeft_eq', BitVec.toNat_ofNat, Nat.mod_eq_of_lt (by omega)]; rfl
def own_fp : Nat → (Nat → Int64) → Int64
  | 0, _ => 0
  | n + 1, f => if (0 : Int64) < f n then own_fp n f ||| ((1 : Int64) <<< Int64.ofNat n) else own_fp n f
theorem own_fp_bit (f : Nat → Int64) : ∀ (n : Nat), n ≤ 64 → ∀ i, i < 64 → own_bit (own_fp n f) i = (decide (i < n) && decide ((0 : Int64) < f i)) := by
  intro n
  induction n with
  | zero => intro _ i hi; simp [own_fp, own_bit]
  | succ n ih =>
    intro hn i hi
    have q : ((1 : Int64) <<< Int64.ofNat n).toBitVec = 1#64 <<< n := by
      have r : (Int32.ofNat n).toInt = (n : Int) := Int32.toInt_ofNat_of_lt (by omega)
      have s := own_shl r (by omega)
      rwa [own_sh r (by omega)] at s
    rw [own_fp]
    by_cases c : (0 : Int64) < f n
    · rw [if_pos c]
      have ih' := ih (by omega) i hi
      unfold own_bit at ih' ⊢
      rw [Int64.toBitVec_or, BitVec.getLsbD_or, ih', q, BitVec.getLsbD_shiftLeft]
      by_cases e : i = n
      · subst e; simp [c, hi]
      · by_cases l : i < n
        · have : i < n + 1 := by omega
          simp [l, this, hi]
        · have : ¬ i < n + 1 := by omega
          have t : i - n ≠ 0 := by omega
          simp [l, this, hi, t]
    · rw [if_neg c, ih (by omega) i hi]
      by_cases e : i = n
      · subst e; simp [c]
      · have : i < n + 1 ↔ i < n := by omega
        simp [this]
theorem own_bit_ext {x y : Int64} (h : ∀ i, i < 64 → own_bit x i = own_bit y i) : x = y := Int64.toBitVec_inj.mp (BitVec.eq_of_getLsbD_eq fun i hi => h i hi)
theorem own_bit_and (x y : Int64) (i : Nat) : own_bit (x &&& y) i = (own_bit x i && own_bit y i) := by unfold own_bit; rw [Int64.toBitVec_and, BitVec.getLsbD_and]
theorem own_bit_or (x y : Int64) (i : Nat) : own_bit (x ||| y) i = (own_bit x i || own_bit y i) := by unfold own_bit; rw [Int64.toBitVec_or, BitVec.getLsbD_or]
theorem own_bit_not (x : Int64) {i : Nat} (hi : i < 64) : own_bit (x ^^^ (-1 : Int64)) i = !(own_bit x i) := by
  unfold own_bit; rw [Int64.toBitVec_xor, BitVec.getLsbD_xor, show (-1 : Int64).toBitVec = BitVec.allOnes 64 from by decide, BitVec.getLsbD_allOnes]; simp [hi]
def own_kp (p : Int32) (x : Int64) : Int64 := if p = (0 : Int32) then (0 : Int64) else x
theorem own_bit_kp (P : Prop) [Decidable P] (x : Int64) (i : Nat) : own_bit (own_kp (own_z P) x) i = (decide P && own_bit x i) := by
  unfold own_kp own_z
  by_cases q : P
  · simp [q]
  · simp [q, own_bit]
def own_step (h w : Int64) (f : Nat → Int64) : Nat → Int64 := fun i => if own_bit h i = false then f i - w else f i + w
theorem own_neg {x y r : Int64} (e : r.toInt = x.toInt + y.toInt) : ¬ ((x ^^^ r) &&& (y ^^^ r)) < (0 : Int64) := by
  have m : ∀ z : Int64, z < (0 : Int64) ↔ z.toBitVec.msb = true := fun z => by
    rw [Int64.lt_iff_toInt_lt, show (0 : Int64).toInt = 0 from rfl]
    show z.toBitVec.toInt < 0 ↔ _
    rw [BitVec.msb_eq_toInt]; simp
  have m2 : ∀ z : Int64, z.toBitVec.msb = decide (z.toInt < 0) := fun z => BitVec.msb_eq_toInt
  rw [m, Int64.toBitVec_and, BitVec.msb_and, Int64.toBitVec_xor, Int64.toBitVec_xor, BitVec.msb_xor, BitVec.msb_xor, m2, m2, m2, e]
  by_cases a : x.toInt < 0 <;> by_cases b : y.toInt < 0 <;> simp [a, b] <;> omega
theorem own_negs {x y r : Int64} (e : r.toInt = x.toInt - y.toInt) : ¬ ((x ^^^ y) &&& (x ^^^ r)) < (0 : Int64) := by
  have m : ∀ z : Int64, z < (0 : Int64) ↔ z.toBitVec.msb = true := fun z => by
    rw [Int64.lt_iff_toInt_lt, show (0 : Int64).toInt = 0 from rfl]
    show z.toBitVec.toInt < 0 ↔ _
    rw [BitVec.msb_eq_toInt]; simp
  have m2 : ∀ z : Int64, z.toBitVec.msb = decide (z.toInt < 0) := fun z => BitVec.msb_eq_toInt
  rw [m, Int64.toBitVec_and, BitVec.msb_and, Int64.toBitVec_xor, Int64.toBitVec_xor, BitVec.msb_xor, BitVec.msb_xor, m2, m2, m2, e]
  by_cases a : x.toInt < 0 <;> by_cases b : y.toInt < 0 <;> simp [a, b] <;> omega
theorem own_sr {w a : Int64} (h : a = (w >>> ((2 : Int32) &&& 0x3f).toInt64)) : -2305843009213693952 ≤ a.toInt ∧ a.toInt < 2305843009213693952 := by
  have e := Jvm.Kit.i64_shr w ((2 : Int32) &&& 0x3f).toInt64 (k := 2) (by decide)
  rw [← h] at e
  have h1 := w.toInt_lt
  have h2 := w.le_toInt
  omega
def own_bd (M : Int) (f : Nat → Int64) : Prop := ∀ i, i < 64 → -M ≤ (f i).toInt ∧ (f i).toInt ≤ M
theorem own_bd0 : own_bd 0 (fun _ => (0 : Int64)) := fun i _ => by rw [show (0 : Int64).toInt = 0 from rfl]; omega
theorem own_bd1 {h w : Int64} {f : Nat → Int64} {M : Int} (hb : own_bd M f) (hM : M ≤ 4611686018427387904) (hw : -2305843009213693952 ≤ w.toInt ∧ w.toInt < 2305843009213693952) : own_bd (M + 2305843009213693952) (own_step h w f) := fun i hi => by
  have b := hb i hi
  unfold own_step
  split
  · rw [Jvm.Kit.i64_sub (by omega) (by omega)]; omega
  · rw [Jvm.Kit.i64_add (by omega) (by omega)]; omega
theorem own_fin {h1 h2 h3 k1 k2 k3 a b c ex : Int64} {f1 f2 f3 : Nat → Int64} (e1 : f1 = own_step h1 a (fun _ => (0 : Int64))) (e2 : f2 = own_step h2 b f1) (e3 : f3 = own_step h3 c f2) (n1 : k1 = (h1 ^^^ (-1 : Int64))) (n2 : k2 = (h2 ^^^ (-1 : Int64))) (n3 : k3 = (h3 ^^^ (-1 : Int64)))
    (hex : ex = ((((((((own_kp (own_z ((0 : Int64) < ((a + b) + c))) ((h1 &&& h2) &&& h3)) ||| (own_kp (own_z ((0 : Int64) < ((a + b) - c))) ((h1 &&& h2) &&& k3))) ||| (own_kp (own_z ((0 : Int64) < ((a - b) + c))) ((h1 &&& k2) &&& h3))) ||| (own_kp (own_z ((0 : Int64) < ((a - b) - c))) ((h1 &&& k2) &&& k3))) ||| (own_kp (own_z ((0 : Int64) < (((-a) + b) + c))) ((k1 &&& h2) &&& h3))) ||| (own_kp (own_z ((0 : Int64) < (((-a) + b) - c))) ((k1 &&& h2) &&& k3))) ||| (own_kp (own_z ((0 : Int64) < (((-a) - b) + c))) ((k1 &&& k2) &&& h3))) ||| (own_kp (own_z ((0 : Int64) < (((-a) - b) - c))) ((k1 &&& k2) &&& k3)))) : own_fp 64 f3 = ex := by
  subst hex n1 n2 n3
  apply own_bit_ext
  intro i hi
  rw [own_fp_bit f3 64 (Nat.le_refl _) i hi]
  simp only [own_bit_or, own_bit_kp, own_bit_and, own_bit_not _ hi, hi, decide_true, Bool.true_and]
  subst e3 e2 e1
  unfold own_step
  generalize own_bit h1 i = x
  generalize own_bit h2 i = y
  generalize own_bit h3 i = z
  cases x <;> cases y <;> cases z <;> simp
theorem own_lt64 {i : Int32} {k : Nat} (h : i.toInt = (k : Int)) : i < (64 : Int32) ↔ k < 64 := by rw [Int32.lt_iff_toInt_lt, show (64 : Int32).toInt = 64 from rfl]; omega
theorem own_inc {i : Int32} {k : Nat} (h : i.toInt = (k : Int)) (hk : k < 64) : (i + (1 : Int32)).toInt = ((k + 1 : Nat) : Int) := by
  have o : (1 : Int32).toInt = 1 := rfl
  rw [Jvm.Kit.i32_add] <;> rw [o] <;> omega
def own_part (h w : Int64) (f fj : Nat → Int64) (k : Nat) : Prop := ∀ x, x < 64 → fj x = if x < k then own_step h w f x else f x
theorem own_part0 (h w : Int64) (f : Nat → Int64) : own_part h w f f 0 := fun x _ => by rw [if_neg (Nat.not_lt_zero _)]
theorem own_partk {h w : Int64} {f fj : Nat → Int64} {k : Nat} (q : own_part h w f fj k) (hk : k < 64) : fj k = f k := by rw [q k hk, if_neg (Nat.lt_irrefl _)]
theorem own_part1 {h w : Int64} {f fj : Nat → Int64} {k : Nat} (q : own_part h w f fj k) (hk : k < 64) {v : Int64} (hv : v = own_step h w f k) : own_part h w f (own_set fj k v) (k + 1) := fun x hx => by
  by_cases e : x = k
  · subst e; rw [own_set_eq rfl, if_pos (Nat.lt_succ_self _), hv]
  · rw [own_set_ne e, q x hx]
    have : x < k + 1 ↔ x < k := by omega
    simp only [this]
theorem own_partf {h w : Int64} {f fj : Nat → Int64} {k : Nat} (q : own_part h w f fj k) (hk : ¬ k < 64) (x : Nat) (hx : x < 64) : fj x = own_step h w f x := by rw [q x hx, if_pos (by omega)]
theorem own_oka {f fj : Nat → Int64} {h w : Int64} {M : Int} {k : Nat} (q : own_part h w f fj k) (hk : k < 64) (hb : own_bd M f) (hM : M ≤ 4611686018427387904) (hw : -2305843009213693952 ≤ w.toInt ∧ w.toInt < 2305843009213693952) : (fj k + w).toInt = (fj k).toInt + w.toInt ∧ (fj k - w).toInt = (fj k).toInt - w.toInt := by
  have b := hb k hk
  rw [own_partk q hk]
  exact ⟨Jvm.Kit.i64_add (by omega) (by omega), Jvm.Kit.i64_sub (by omega) (by omega)⟩

theorem d4_0 : decode jdk_29_method_25_code 0 = .ok (.lload_n 0, 1) := by decide +kernel
theorem d4_1 : decode jdk_29_method_25_code 1 = .ok (.lload_n 2, 1) := by decide +kernel
theorem d4_2 : decode jdk_29_method_25_code 2 = .ok (.ladd, 1) := by decide +kernel
theorem d4_3 : decode jdk_29_method_25_code 3 = .ok (.lstore 4, 2) := by decide +kernel
theorem d4_5 : decode jdk_29_method_25_code 5 = .ok (.lload_n 0, 1) := by decide +kernel
theorem d4_6 : decode jdk_29_method_25_code 6 = .ok (.lload 4, 2) := by decide +kernel
theorem d4_8 : decode jdk_29_method_25_code 8 = .ok (.lxor, 1) := by decide +kernel
theorem d4_9 : decode jdk_29_method_25_code 9 = .ok (.lload_n 2, 1) := by decide +kernel
theorem d4_10 : decode jdk_29_method_25_code 10 = .ok (.lload 4, 2) := by decide +kernel
theorem d4_12 : decode jdk_29_method_25_code 12 = .ok (.lxor, 1) := by decide +kernel
theorem d4_13 : decode jdk_29_method_25_code 13 = .ok (.land, 1) := by decide +kernel
theorem d4_14 : decode jdk_29_method_25_code 14 = .ok (.lconst 0, 1) := by decide +kernel
theorem d4_15 : decode jdk_29_method_25_code 15 = .ok (.lcmp, 1) := by decide +kernel
theorem d4_16 : decode jdk_29_method_25_code 16 = .ok (.ifCond .ge 13, 3) := by decide +kernel
theorem d4_29 : decode jdk_29_method_25_code 29 = .ok (.lload 4, 2) := by decide +kernel
theorem d4_31 : decode jdk_29_method_25_code 31 = .ok (.lreturn, 1) := by decide +kernel
set_option maxRecDepth 65536 in
set_option maxHeartbeats 4000000 in
theorem ef_4 (m : MethodId) (q0 : Int64) (q1 : Int64) : entryFrame m #[(.long q0), (.long q1)] 6 = mkF m 0 #[.val (.long q0), .second, .val (.long q1), .second, .unset, .unset] [] := by first | (simp [entryFrame, mkF, argsToLocals, Value.category]; done) | rfl
set_option maxRecDepth 65536 in
set_option maxHeartbeats 40000000 in
theorem rm4 (l : Launch) (Z : State) (aw : Array Value) (hw : ∀ d ∈ tables_1, d.before aw Z = true) {ws : List Jvm.Cond} (q0 : Int64) (q1 : Int64)  (h0 : Heap) (n0 : Nat) (Z0 : n0 ≤ h0.size) (hh : (q0 + q1).toInt = q0.toInt + q1.toInt) :
    own_Met l Z (⟨"java/lang/Math", "addExact", "(JJ)J"⟩ : MethodName) jdk_29_method_25_code 6 (some .long) ws ({ frames := 0, cells := 0, slots := 0, locals := 0 } : Room) #[(.long q0), (.long q1)] h0 (own_Pq (some (.long (q0 + q1))) h0) := by
  refine own_body (Jvm.Free.JP.mathPlain rfl (by decide +kernel)) ?_
  intro p e s m below meth c s₁ hx hZ hby hml hown hnm hret hlk X0 e0
  replace hown : s.vm.findClass "java/lang/Math" = some m.cls := hown
  replace hml : c.maxLocals = 6 := hml
  obtain ⟨P, hP⟩ : ∃ P, P = own_P below s (own_Pq (some (.long (q0 + q1))) h0) ({ frames := 0, cells := 0, slots := 0, locals := 0 } : Room).cells ({ frames := 0, cells := 0, slots := 0, locals := 0 } : Room).slots := ⟨_, rfl⟩
  rw [← hP]
  refine own_cast (ef_4 m q0 q1) ?_
  refine own_go (T' := s₁) (f' := (mkF m 3 #[.val (.long q0), .second, .val (.long q1), .second, .unset, .unset] [(.long (q0 + q1))])) (fun t kt => ?_) ?_
  · show Steps p.tables e below (s₁.setTop (mkF m 0 #[.val (.long q0), .second, .val (.long q1), .second, .unset, .unset] [])) t
    refine XS.lloadN X0.here hx rfl (hb hby d4_0) rfl ?_
    show Steps p.tables e below (s₁.setTop (mkF m 1 #[.val (.long q0), .second, .val (.long q1), .second, .unset, .unset] [(.long q0)])) t
    refine XS.lloadN X0.here hx rfl (hb hby d4_1) rfl ?_
    show Steps p.tables e below (s₁.setTop (mkF m 2 #[.val (.long q0), .second, .val (.long q1), .second, .unset, .unset] [(.long q1), (.long q0)])) t
    refine XS.ladd X0.here hx rfl (hb hby d4_2) rfl ?_
    show Steps p.tables e below (s₁.setTop (mkF m 3 #[.val (.long q0), .second, .val (.long q1), .second, .unset, .unset] [(.long (q0 + q1))])) t
    exact kt
  obtain ⟨rr, hrr⟩ : ∃ z, z = (q0 + q1) := ⟨_, rfl⟩
  rw [← hrr]
  refine own_go (T' := s₁) (f' := (mkF m 31 #[.val (.long q0), .second, .val (.long q1), .second, .val (.long rr), .second] [(.long rr)])) (fun t kt => ?_) ?_
  · show Steps p.tables e below (s₁.setTop (mkF m 3 #[.val (.long q0), .second, .val (.long q1), .second, .unset, .unset] [(.long rr)])) t
    refine XS.lstore X0.here hx rfl (hb hby d4_3) rfl (l' := #[.val (.long q0), .second, .val (.long q1), .second, .val (.long rr), .second]) rfl ?_
    show Steps p.tables e below (s₁.setTop (mkF m 5 #[.val (.long q0), .second, .val (.long q1), .second, .val (.long rr), .second] [])) t
    refine XS.lloadN X0.here hx rfl (hb hby d4_5) rfl ?_
    show Steps p.tables e below (s₁.setTop (mkF m 6 #[.val (.long q0), .second, .val (.long q1), .second, .val (.long rr), .second] [(.long q0)])) t
    refine XS.lload X0.here hx rfl (hb hby d4_6) rfl ?_
    show Steps p.tables e below (s₁.setTop (mkF m 8 #[.val (.long q0), .second, .val (.long q1), .second, .val (.long rr), .second] [(.long rr), (.long q0)])) t
    refine XS.lxor X0.here hx rfl (hb hby d4_8) rfl ?_
    show Steps p.tables e below (s₁.setTop (mkF m 9 #[.val (.long q0), .second, .val (.long q1), .second, .val (.long rr), .second] [(.long (q0 ^^^ rr))])) t
    refine XS.lloadN X0.here hx rfl (hb hby d4_9) rfl ?_
    show Steps p.tables e below (s₁.setTop (mkF m 10 #[.val (.long q0), .second, .val (.long q1), .second, .val (.long rr), .second] [(.long q1), (.long (q0 ^^^ rr))])) t
    refine XS.lload X0.here hx rfl (hb hby d4_10) rfl ?_
    show Steps p.tables e below (s₁.setTop (mkF m 12 #[.val (.long q0), .second, .val (.long q1), .second, .val (.long rr), .second] [(.long rr), (.long q1), (.long (q0 ^^^ rr))])) t
    refine XS.lxor X0.here hx rfl (hb hby d4_12) rfl ?_
    show Steps p.tables e below (s₁.setTop (mkF m 13 #[.val (.long q0), .second, .val (.long q1), .second, .val (.long rr), .second] [(.long (q1 ^^^ rr)), (.long (q0 ^^^ rr))])) t
    refine XS.land X0.here hx rfl (hb hby d4_13) rfl ?_
    show Steps p.tables e below (s₁.setTop (mkF m 14 #[.val (.long q0), .second, .val (.long q1), .second, .val (.long rr), .second] [(.long ((q0 ^^^ rr) &&& (q1 ^^^ rr)))])) t
    refine XS.lconst X0.here hx rfl (hb hby d4_14) ?_
    show Steps p.tables e below (s₁.setTop (mkF m 15 #[.val (.long q0), .second, .val (.long q1), .second, .val (.long rr), .second] [(.long (0 : Int64)), (.long ((q0 ^^^ rr) &&& (q1 ^^^ rr)))])) t
    refine XS.lcmp X0.here hx rfl (hb hby d4_15) rfl ?_
    show Steps p.tables e below (s₁.setTop (mkF m 16 #[.val (.long q0), .second, .val (.long q1), .second, .val (.long rr), .second] [(.int (lcmpW ((q0 ^^^ rr) &&& (q1 ^^^ rr)) (0 : Int64)))])) t
    refine XS.ifYes X0.here hx rfl (pc0 := 16) (pc' := 29) rfl (hb hby d4_16) rfl (own_lY_ge (show ¬ (((q0 ^^^ rr) &&& (q1 ^^^ rr)) < (0 : Int64)) from own_neg (by rw [hrr]; exact hh))) (by decide) (by decide) ?_
    show Steps p.tables e below (s₁.setTop (mkF m 29 #[.val (.long q0), .second, .val (.long q1), .second, .val (.long rr), .second] [])) t
    refine XS.lload X0.here hx rfl (hb hby d4_29) rfl ?_
    show Steps p.tables e below (s₁.setTop (mkF m 31 #[.val (.long q0), .second, .val (.long q1), .second, .val (.long rr), .second] [(.long rr)])) t
    exact kt
  exact own_retJ X0 hP hx hlk e0 hret (hb hby d4_31) (by decide) (by decide) ⟨(by rw [hrr]), rfl, rfl⟩
theorem d5_0 : decode jdk_29_method_27_code 0 = .ok (.lload_n 0, 1) := by decide +kernel
theorem d5_1 : decode jdk_29_method_27_code 1 = .ok (.lload_n 2, 1) := by decide +kernel
theorem d5_2 : decode jdk_29_method_27_code 2 = .ok (.lsub, 1) := by decide +kernel
theorem d5_3 : decode jdk_29_method_27_code 3 = .ok (.lstore 4, 2) := by decide +kernel
theorem d5_5 : decode jdk_29_method_27_code 5 = .ok (.lload_n 0, 1) := by decide +kernel
theorem d5_6 : decode jdk_29_method_27_code 6 = .ok (.lload_n 2, 1) := by decide +kernel
theorem d5_7 : decode jdk_29_method_27_code 7 = .ok (.lxor, 1) := by decide +kernel
theorem d5_8 : decode jdk_29_method_27_code 8 = .ok (.lload_n 0, 1) := by decide +kernel
theorem d5_9 : decode jdk_29_method_27_code 9 = .ok (.lload 4, 2) := by decide +kernel
theorem d5_11 : decode jdk_29_method_27_code 11 = .ok (.lxor, 1) := by decide +kernel
theorem d5_12 : decode jdk_29_method_27_code 12 = .ok (.land, 1) := by decide +kernel
theorem d5_13 : decode jdk_29_method_27_code 13 = .ok (.lconst 0, 1) := by decide +kernel
theorem d5_14 : decode jdk_29_method_27_code 14 = .ok (.lcmp, 1) := by decide +kernel
theorem d5_15 : decode jdk_29_method_27_code 15 = .ok (.ifCond .ge 13, 3) := by decide +kernel
theorem d5_28 : decode jdk_29_method_27_code 28 = .ok (.lload 4, 2) := by decide +kernel
theorem d5_30 : decode jdk_29_method_27_code 30 = .ok (.lreturn, 1) := by decide +kernel
set_option maxRecDepth 65536 in
set_option maxHeartbeats 4000000 in
theorem ef_5 (m : MethodId) (q0 : Int64) (q1 : Int64) : entryFrame m #[(.long q0), (.long q1)] 6 = mkF m 0 #[.val (.long q0), .second, .val (.long q1), .second, .unset, .unset] [] := by first | (simp [entryFrame, mkF, argsToLocals, Value.category]; done) | rfl
set_option maxRecDepth 65536 in
set_option maxHeartbeats 40000000 in
theorem rm5 (l : Launch) (Z : State) (aw : Array Value) (hw : ∀ d ∈ tables_1, d.before aw Z = true) {ws : List Jvm.Cond} (q0 : Int64) (q1 : Int64)  (h0 : Heap) (n0 : Nat) (Z0 : n0 ≤ h0.size) (hh : (q0 - q1).toInt = q0.toInt - q1.toInt) :
    own_Met l Z (⟨"java/lang/Math", "subtractExact", "(JJ)J"⟩ : MethodName) jdk_29_method_27_code 6 (some .long) ws ({ frames := 0, cells := 0, slots := 0, locals := 0 } : Room) #[(.long q0), (.long q1)] h0 (own_Pq (some (.long (q0 - q1))) h0) := by
  refine own_body (Jvm.Free.JP.mathPlain rfl (by decide +kernel)) ?_
  intro p e s m below meth c s₁ hx hZ hby hml hown hnm hret hlk X0 e0
  replace hown : s.vm.findClass "java/lang/Math" = some m.cls := hown
  replace hml : c.maxLocals = 6 := hml
  obtain ⟨P, hP⟩ : ∃ P, P = own_P below s (own_Pq (some (.long (q0 - q1))) h0) ({ frames := 0, cells := 0, slots := 0, locals := 0 } : Room).cells ({ frames := 0, cells := 0, slots := 0, locals := 0 } : Room).slots := ⟨_, rfl⟩
  rw [← hP]
  refine own_cast (ef_5 m q0 q1) ?_
  refine own_go (T' := s₁) (f' := (mkF m 3 #[.val (.long q0), .second, .val (.long q1), .second, .unset, .unset] [(.long (q0 - q1))])) (fun t kt => ?_) ?_
  · show Steps p.tables e below (s₁.setTop (mkF m 0 #[.val (.long q0), .second, .val (.long q1), .second, .unset, .unset] [])) t
    refine XS.lloadN X0.here hx rfl (hb hby d5_0) rfl ?_
    show Steps p.tables e below (s₁.setTop (mkF m 1 #[.val (.long q0), .second, .val (.long q1), .second, .unset, .unset] [(.long q0)])) t
    refine XS.lloadN X0.here hx rfl (hb hby d5_1) rfl ?_
    show Steps p.tables e below (s₁.setTop (mkF m 2 #[.val (.long q0), .second, .val (.long q1), .second, .unset, .unset] [(.long q1), (.long q0)])) t
    refine XS.lsub X0.here hx rfl (hb hby d5_2) rfl ?_
    show Steps p.tables e below (s₁.setTop (mkF m 3 #[.val (.long q0), .second, .val (.long q1), .second, .unset, .unset] [(.long (q0 - q1))])) t
    exact kt
  obtain ⟨rr, hrr⟩ : ∃ z, z = (q0 - q1) := ⟨_, rfl⟩
  rw [← hrr]
  refine own_go (T' := s₁) (f' := (mkF m 30 #[.val (.long q0), .second, .val (.long q1), .second, .val (.long rr), .second] [(.long rr)])) (fun t kt => ?_) ?_
  · show Steps p.tables e below (s₁.setTop (mkF m 3 #[.val (.long q0), .second, .val (.long q1), .second, .unset, .unset] [(.long rr)])) t
    refine XS.lstore X0.here hx rfl (hb hby d5_3) rfl (l' := #[.val (.long q0), .second, .val (.long q1), .second, .val (.long rr), .second]) rfl ?_
    show Steps p.tables e below (s₁.setTop (mkF m 5 #[.val (.long q0), .second, .val (.long q1), .second, .val (.long rr), .second] [])) t
    refine XS.lloadN X0.here hx rfl (hb hby d5_5) rfl ?_
    show Steps p.tables e below (s₁.setTop (mkF m 6 #[.val (.long q0), .second, .val (.long q1), .second, .val (.long rr), .second] [(.long q0)])) t
    refine XS.lloadN X0.here hx rfl (hb hby d5_6) rfl ?_
    show Steps p.tables e below (s₁.setTop (mkF m 7 #[.val (.long q0), .second, .val (.long q1), .second, .val (.long rr), .second] [(.long q1), (.long q0)])) t
    refine XS.lxor X0.here hx rfl (hb hby d5_7) rfl ?_
    show Steps p.tables e below (s₁.setTop (mkF m 8 #[.val (.long q0), .second, .val (.long q1), .second, .val (.long rr), .second] [(.long (q0 ^^^ q1))])) t
    refine XS.lloadN X0.here hx rfl (hb hby d5_8) rfl ?_
    show Steps p.tables e below (s₁.setTop (mkF m 9 #[.val (.long q0), .second, .val (.long q1), .second, .val (.long rr), .second] [(.long q0), (.long (q0 ^^^ q1))])) t
    refine XS.lload X0.here hx rfl (hb hby d5_9) rfl ?_
    show Steps p.tables e below (s₁.setTop (mkF m 11 #[.val (.long q0), .second, .val (.long q1), .second, .val (.long rr), .second] [(.long rr), (.long q0), (.long (q0 ^^^ q1))])) t
    refine XS.lxor X0.here hx rfl (hb hby d5_11) rfl ?_
    show Steps p.tables e below (s₁.setTop (mkF m 12 #[.val (.long q0), .second, .val (.long q1), .second, .val (.long rr), .second] [(.long (q0 ^^^ rr)), (.long (q0 ^^^ q1))])) t
    refine XS.land X0.here hx rfl (hb hby d5_12) rfl ?_
    show Steps p.tables e below (s₁.setTop (mkF m 13 #[.val (.long q0), .second, .val (.long q1), .second, .val (.long rr), .second] [(.long ((q0 ^^^ q1) &&& (q0 ^^^ rr)))])) t
    refine XS.lconst X0.here hx rfl (hb hby d5_13) ?_
    show Steps p.tables e below (s₁.setTop (mkF m 14 #[.val (.long q0), .second, .val (.long q1), .second, .val (.long rr), .second] [(.long (0 : Int64)), (.long ((q0 ^^^ q1) &&& (q0 ^^^ rr)))])) t
    refine XS.lcmp X0.here hx rfl (hb hby d5_14) rfl ?_
    show Steps p.tables e below (s₁.setTop (mkF m 15 #[.val (.long q0), .second, .val (.long q1), .second, .val (.long rr), .second] [(.int (lcmpW ((q0 ^^^ q1) &&& (q0 ^^^ rr)) (0 : Int64)))])) t
    refine XS.ifYes X0.here hx rfl (pc0 := 15) (pc' := 28) rfl (hb hby d5_15) rfl (own_lY_ge (show ¬ (((q0 ^^^ q1) &&& (q0 ^^^ rr)) < (0 : Int64)) from own_negs (by rw [hrr]; exact hh))) (by decide) (by decide) ?_
    show Steps p.tables e below (s₁.setTop (mkF m 28 #[.val (.long q0), .second, .val (.long q1), .second, .val (.long rr), .second] [])) t
    refine XS.lload X0.here hx rfl (hb hby d5_28) rfl ?_
    show Steps p.tables e below (s₁.setTop (mkF m 30 #[.val (.long q0), .second, .val (.long q1), .second, .val (.long rr), .second] [(.long rr)])) t
    exact kt
  exact own_retJ X0 hP hx hlk e0 hret (hb hby d5_30) (by decide) (by decide) ⟨(by rw [hrr]), rfl, rfl⟩
theorem pn_0 : plainName "com/example/resemblr/resemblr/SimHash" = true := by first | (simp [plainName, overriddenIn]; done) | decide +kernel
theorem d1_0 : decode prog_23_method_1_code 0 = .ok (.aload_n 0, 1) := by decide +kernel
theorem d1_1 : decode prog_23_method_1_code 1 = .ok (.invokespecial 1, 3) := by decide +kernel
theorem d1_4 : decode prog_23_method_1_code 4 = .ok (.aload_n 0, 1) := by decide +kernel
theorem d1_5 : decode prog_23_method_1_code 5 = .ok (.bipush 64, 2) := by decide +kernel
theorem d1_7 : decode prog_23_method_1_code 7 = .ok (.newarray .long, 2) := by decide +kernel
theorem d1_9 : decode prog_23_method_1_code 9 = .ok (.putfield 9, 3) := by decide +kernel
theorem d1_12 : decode prog_23_method_1_code 12 = .ok (.return_, 1) := by decide +kernel
set_option maxRecDepth 65536 in
set_option maxHeartbeats 4000000 in
theorem ef_1 (m : MethodId) (a0 : Addr) : entryFrame m #[(.ref a0)] 1 = mkF m 0 #[.val (.ref a0)] [] := by first | (simp [entryFrame, mkF, argsToLocals, Value.category]; done) | rfl
set_option maxRecDepth 65536 in
set_option maxHeartbeats 40000000 in
theorem rm1 (l : Launch) (Z : State) (aw : Array Value) (hw : ∀ d ∈ tables_1, d.before aw Z = true) {ws : List Jvm.Cond} (a0 : Addr)  (h0 : Heap) (n0 : Nat) (Z0 : n0 ≤ h0.size) (E_a0 : Exa Z h0 a0 "com/example/resemblr/resemblr/SimHash") (K_a0 : own_K h0 a0) (g_a0 : n0 ≤ a0) :
    own_Met l Z (⟨"com/example/resemblr/resemblr/SimHash", "<init>", "()V"⟩ : MethodName) prog_23_method_1_code 1 none ws ({ frames := 1, cells := 1, slots := 64, locals := 12 } : Room) #[(.ref a0)] h0 (fun v h L => v = none ∧ Fr n0 L ∧ Keep h0 h [a0] ∧ Exa Z h a0 "com/example/resemblr/resemblr/SimHash" ∧ ∃ r, n0 ≤ r ∧ h0.size ≤ r ∧ Fld Z h a0 "com/example/resemblr/resemblr/SimHash" "sums" "[J" (.ref r) ∧ own_AJ Z h r 64 (fun _ => (0 : Int64))) := by
  refine own_body (plainFor_of_name pn_0) ?_
  intro p e s m below meth c s₁ hx hZ hby hml hown hnm hret hlk X0 e0
  replace hown : s.vm.findClass "com/example/resemblr/resemblr/SimHash" = some m.cls := hown
  replace hml : c.maxLocals = 1 := hml
  have N0 := Fr.nil n0
  have K0 := Keep.refl h0 [a0]
  obtain ⟨P, hP⟩ : ∃ P, P = own_P below s (fun v h L => v = none ∧ Fr n0 L ∧ Keep h0 h [a0] ∧ Exa Z h a0 "com/example/resemblr/resemblr/SimHash" ∧ ∃ r, n0 ≤ r ∧ h0.size ≤ r ∧ Fld Z h a0 "com/example/resemblr/resemblr/SimHash" "sums" "[J" (.ref r) ∧ own_AJ Z h r 64 (fun _ => (0 : Int64))) ({ frames := 1, cells := 1, slots := 64, locals := 12 } : Room).cells ({ frames := 1, cells := 1, slots := 64, locals := 12 } : Room).slots := ⟨_, rfl⟩
  rw [← hP]
  refine own_cast (ef_1 m a0) ?_
  refine own_go (T' := s₁) (f' := (mkF m 1 #[.val (.ref a0)] [(.ref a0)])) (fun t kt => ?_) ?_
  · show Steps p.tables e below (s₁.setTop (mkF m 0 #[.val (.ref a0)] [])) t
    refine XS.aloadN X0.here hx rfl (hb hby d1_0) rfl rfl ?_
    show Steps p.tables e below (s₁.setTop (mkF m 1 #[.val (.ref a0)] [(.ref a0)])) t
    exact kt
  obtain ⟨T1, X1, e1, st1⟩ := initO X0 hx hZ hown (hw _ (List.mem_of_getElem? (i := 6) rfl)) (hw _ (List.mem_of_getElem? (i := 7) rfl)) (hw _ (List.mem_of_getElem? (i := 8) rfl)) e0 (g := (mkF m 1 #[.val (.ref a0)] [(.ref a0)])) rfl (by rw [hml]; rfl) rfl (hb hby d1_1) (by decide) (W := 0) (by show 2 * 0 + _ ≤ _; exact Nat.le_of_eq rfl) (by decide)
  refine own_go st1 ?_
  refine own_go (T' := T1) (f' := (mkF m 7 #[.val (.ref a0)] [(.int (64 : Int32)), (.ref a0)])) (fun t kt => ?_) ?_
  · show Steps p.tables e below (T1.setTop (mkF m 4 #[.val (.ref a0)] [])) t
    refine XS.aloadN X1.here hx rfl (hb hby d1_4) rfl rfl ?_
    show Steps p.tables e below (T1.setTop (mkF m 5 #[.val (.ref a0)] [(.ref a0)])) t
    refine XS.bipush X1.here hx rfl (hb hby d1_5) ?_
    show Steps p.tables e below (T1.setTop (mkF m 7 #[.val (.ref a0)] [(.int (64 : Int32)), (.ref a0)])) t
    exact kt
  obtain ⟨T2, h2, k2, X2, e2, E2, A2, st2⟩ := newP X1 hx hZ (hw _ (List.mem_of_getElem? (i := 9) rfl)) e1 (g := (mkF m 7 #[.val (.ref a0)] [(.int (64 : Int32)), (.ref a0)])) rfl (hb hby d1_7) rfl (by decide) (cap := 64) (by decide) (by decide) (by decide) (by decide)
  obtain ⟨b2, y2⟩ : ∃ z, z = h0.size := ⟨_, rfl⟩
  rw [← y2] at A2 st2
  have ne_a0_b2 : a0 ≠ b2 := Nat.ne_of_lt (Nat.lt_of_lt_of_le E_a0.lt (Nat.le_of_eq y2.symm))
  have ne_b2_a0 := ne_a0_b2.symm
  have g_b2 : n0 ≤ b2 := Nat.le_trans Z0 (Nat.le_of_eq y2.symm)
  have sz_b2 : h0.size ≤ b2 := Nat.le_trans K0.1 (Nat.le_of_eq y2.symm)
  replace E_a0 := (E_a0.ext E2)
  replace K_a0 := own_K_ext K_a0 E2
  have ZE2 : n0 ≤ h2.size := Nat.le_trans Z0 E2.1
  have KKE2 := K0.ext E2
  refine own_go st2 ?_
  have Ar_b2 : own_AJ Z h2 b2 64 (fun _ => (0 : Int64)) := own_A_new A2 (by decide)
  obtain ⟨uv3, F3_sums⟩ := fld_laid E_a0 K_a0 (hw _ (List.mem_of_getElem? (i := 1) rfl)) (Or.inr (hw _ (List.mem_of_getElem? (i := 11) rfl)))
  obtain ⟨T3, h3, X3, e3, W3, st3⟩ := putF X2 hx hZ hown (host := "") (Or.inl (hw _ (List.mem_of_getElem? (i := 10) rfl))) Via.refl e2 F3_sums E_a0 (Or.inr ⟨(hw _ (List.mem_of_getElem? (i := 11) rfl)), rfl, hnm⟩) (hw _ (List.mem_of_getElem? (i := 1) rfl)) (ty := (.array .long)) (by decide) rfl rfl (g := (mkF m 9 #[.val (.ref a0)] [(.ref b2), (.ref a0)])) rfl rfl (hb hby d1_9)
  refine own_go st3 ?_
  replace E_a0 := (E_a0.wr W3)
  replace Ar_b2 := (Ar_b2.other W3 (ne_b2_a0))
  replace F3_sums := (F3_sums.same W3)
  replace K_a0 := own_K_wr K_a0 W3
  have N3 := Fr.snoc X3 N0 g_a0
  have Z3 : n0 ≤ h3.size := Nat.le_trans ZE2 (Keep.of_wr W3).1
  have KK3 := KKE2.wr W3 (Or.inl (by simp))
  exact own_retV X3 hP hx hlk e3 hret (hb hby d1_12) (by decide) (by decide) ⟨rfl, N3, KK3, E_a0, ⟨_, g_b2, sz_b2, F3_sums, Ar_b2⟩⟩
theorem pd_0 : parseMethodDescriptor "(JJ)J" = some ⟨[.long, .long], some .long⟩ := by decide +kernel
theorem d3_0 : decode prog_23_method_5_code 0 = .ok (.iconst 0, 1) := by decide +kernel
theorem d3_1 : decode prog_23_method_5_code 1 = .ok (.istore 5, 2) := by decide +kernel
theorem d3_3 : decode prog_23_method_5_code 3 = .ok (.iload 5, 2) := by decide +kernel
theorem d3_5 : decode prog_23_method_5_code 5 = .ok (.bipush 64, 2) := by decide +kernel
theorem d3_7 : decode prog_23_method_5_code 7 = .ok (.if_icmp .ge 59, 3) := by decide +kernel
theorem d3_10 : decode prog_23_method_5_code 10 = .ok (.lload_n 1, 1) := by decide +kernel
theorem d3_11 : decode prog_23_method_5_code 11 = .ok (.iload 5, 2) := by decide +kernel
theorem d3_13 : decode prog_23_method_5_code 13 = .ok (.lushr, 1) := by decide +kernel
theorem d3_14 : decode prog_23_method_5_code 14 = .ok (.lconst 1, 1) := by decide +kernel
theorem d3_15 : decode prog_23_method_5_code 15 = .ok (.land, 1) := by decide +kernel
theorem d3_16 : decode prog_23_method_5_code 16 = .ok (.lconst 0, 1) := by decide +kernel
theorem d3_17 : decode prog_23_method_5_code 17 = .ok (.lcmp, 1) := by decide +kernel
theorem d3_18 : decode prog_23_method_5_code 18 = .ok (.ifCond .eq 24, 3) := by decide +kernel
theorem d3_21 : decode prog_23_method_5_code 21 = .ok (.aload_n 0, 1) := by decide +kernel
theorem d3_22 : decode prog_23_method_5_code 22 = .ok (.getfield 9, 3) := by decide +kernel
theorem d3_25 : decode prog_23_method_5_code 25 = .ok (.iload 5, 2) := by decide +kernel
theorem d3_27 : decode prog_23_method_5_code 27 = .ok (.aload_n 0, 1) := by decide +kernel
theorem d3_28 : decode prog_23_method_5_code 28 = .ok (.getfield 9, 3) := by decide +kernel
theorem d3_31 : decode prog_23_method_5_code 31 = .ok (.iload 5, 2) := by decide +kernel
theorem d3_33 : decode prog_23_method_5_code 33 = .ok (.laload, 1) := by decide +kernel
theorem d3_34 : decode prog_23_method_5_code 34 = .ok (.lload_n 3, 1) := by decide +kernel
theorem d3_35 : decode prog_23_method_5_code 35 = .ok (.invokestatic 44, 3) := by decide +kernel
theorem d3_38 : decode prog_23_method_5_code 38 = .ok (.lastore, 1) := by decide +kernel
theorem d3_39 : decode prog_23_method_5_code 39 = .ok (.goto 21, 3) := by decide +kernel
theorem d3_42 : decode prog_23_method_5_code 42 = .ok (.aload_n 0, 1) := by decide +kernel
theorem d3_43 : decode prog_23_method_5_code 43 = .ok (.getfield 9, 3) := by decide +kernel
theorem d3_46 : decode prog_23_method_5_code 46 = .ok (.iload 5, 2) := by decide +kernel
theorem d3_48 : decode prog_23_method_5_code 48 = .ok (.aload_n 0, 1) := by decide +kernel
theorem d3_49 : decode prog_23_method_5_code 49 = .ok (.getfield 9, 3) := by decide +kernel
theorem d3_52 : decode prog_23_method_5_code 52 = .ok (.iload 5, 2) := by decide +kernel
theorem d3_54 : decode prog_23_method_5_code 54 = .ok (.laload, 1) := by decide +kernel
theorem d3_55 : decode prog_23_method_5_code 55 = .ok (.lload_n 3, 1) := by decide +kernel
theorem d3_56 : decode prog_23_method_5_code 56 = .ok (.invokestatic 50, 3) := by decide +kernel
theorem d3_59 : decode prog_23_method_5_code 59 = .ok (.lastore, 1) := by decide +kernel
theorem d3_60 : decode prog_23_method_5_code 60 = .ok (.iinc 5 1, 3) := by decide +kernel
theorem d3_63 : decode prog_23_method_5_code 63 = .ok (.goto (-60), 3) := by decide +kernel
theorem d3_66 : decode prog_23_method_5_code 66 = .ok (.return_, 1) := by decide +kernel
set_option maxRecDepth 65536 in
set_option maxHeartbeats 4000000 in
theorem ef_3 (m : MethodId) (a0 : Addr) (q1 : Int64) (q2 : Int64) : entryFrame m #[(.ref a0), (.long q1), (.long q2)] 6 = mkF m 0 #[.val (.ref a0), .val (.long q1), .second, .val (.long q2), .second, .unset] [] := by first | (simp [entryFrame, mkF, argsToLocals, Value.category]; done) | rfl
set_option maxRecDepth 65536 in
set_option maxHeartbeats 40000000 in
theorem rm3 (l : Launch) (Z : State) (aw : Array Value) (hw : ∀ d ∈ tables_1, d.before aw Z = true) {ws : List Jvm.Cond} (a0 : Addr) (q1 : Int64) (q2 : Int64) (w0 : Addr) (f : Nat → Int64) (M : Int) (h0 : Heap) (n0 : Nat) (Z0 : n0 ≤ h0.size) (F_a0_sums : Fld Z h0 a0 "com/example/resemblr/resemblr/SimHash" "sums" "[J" (.ref w0)) (Ar_w0 : own_AJ Z h0 w0 64 f) (g_w0 : n0 ≤ w0) (ne_a0_w0 : a0 ≠ w0) (hbd : own_bd M f) (hM : M ≤ 4611686018427387904) (hw' : -2305843009213693952 ≤ q2.toInt ∧ q2.toInt < 2305843009213693952) :
    own_Met l Z (⟨"com/example/resemblr/resemblr/SimHash", "add", "(JJ)V"⟩ : MethodName) prog_23_method_5_code 6 none ws ({ frames := 1, cells := 0, slots := 0, locals := 19 } : Room) #[(.ref a0), (.long q1), (.long q2)] h0 (fun v h L => v = none ∧ Fr n0 L ∧ Keep h0 h [w0] ∧ own_AJ Z h w0 64 (own_step q1 q2 f)) := by
  refine own_body (plainFor_of_name pn_0) ?_
  intro p e s m below meth c s₁ hx hZ hby hml hown hnm hret hlk X0 e0
  replace hown : s.vm.findClass "com/example/resemblr/resemblr/SimHash" = some m.cls := hown
  replace hml : c.maxLocals = 6 := hml
  have N0 := Fr.nil n0
  have K0 := Keep.refl h0 [w0]
  obtain ⟨P, hP⟩ : ∃ P, P = own_P below s (fun v h L => v = none ∧ Fr n0 L ∧ Keep h0 h [w0] ∧ own_AJ Z h w0 64 (own_step q1 q2 f)) ({ frames := 1, cells := 0, slots := 0, locals := 19 } : Room).cells ({ frames := 1, cells := 0, slots := 0, locals := 19 } : Room).slots := ⟨_, rfl⟩
  rw [← hP]
  refine own_cast (ef_3 m a0 q1 q2) ?_
  refine own_go (T' := s₁) (f' := (mkF m 3 #[.val (.ref a0), .val (.long q1), .second, .val (.long q2), .second, .val (.int (0 : Int32))] [])) (fun t kt => ?_) ?_
  · show Steps p.tables e below (s₁.setTop (mkF m 0 #[.val (.ref a0), .val (.long q1), .second, .val (.long q2), .second, .unset] [])) t
    refine XS.iconst X0.here hx rfl (hb hby d3_0) ?_
    show Steps p.tables e below (s₁.setTop (mkF m 1 #[.val (.ref a0), .val (.long q1), .second, .val (.long q2), .second, .unset] [(.int (0 : Int32))])) t
    refine XS.istore X0.here hx rfl (hb hby d3_1) rfl (l' := #[.val (.ref a0), .val (.long q1), .second, .val (.long q2), .second, .val (.int (0 : Int32))]) rfl ?_
    show Steps p.tables e below (s₁.setTop (mkF m 3 #[.val (.ref a0), .val (.long q1), .second, .val (.long q2), .second, .val (.int (0 : Int32))] [])) t
    exact kt
  have J3 : ∀ (mk : Nat) (Tj1 : State) (lj1 : List Loc) (hj1 : Heap) (fj : Nat → Int64) (ii : Int32) (kk : Nat) (Xj1 : Stand p l e ({ frames := 1, cells := 0, slots := 0, locals := 19 } : Room) s m #[(.ref a0), (.long q1), (.long q2)] below meth c Tj1 lj1 0 0) (Nj1 : Fr n0 lj1) (ej1 : Tj1.heap = hj1) (Zj1 : n0 ≤ hj1.size) (Kj1 : Keep h0 hj1 [w0]) (fj1_0 : Fld Z hj1 a0 "com/example/resemblr/resemblr/SimHash" "sums" "[J" (.ref w0)) (fj1_1 : own_AJ Z hj1 w0 64 fj) (hii : ii.toInt = (kk : Int)) (hk : kk ≤ 64) (hF : own_part q1 q2 f fj kk) (hmk : mk = 64 - kk), own_End p e below P Tj1 (mkF m 3 #[.val (.ref a0), .val (.long q1), .second, .val (.long q2), .second, .val (.int ii)] []) := by
    intro mk
    induction mk using Nat.strongRecOn with
    | _ mk IHJ3 =>
    intro Tj1 lj1 hj1 fj ii kk Xj1 Nj1 ej1 Zj1 Kj1 fj1_0 fj1_1 hii hk hF hmk
    refine own_go (T' := Tj1) (f' := (mkF m 7 #[.val (.ref a0), .val (.long q1), .second, .val (.long q2), .second, .val (.int ii)] [(.int (64 : Int32)), (.int ii)])) (fun t kt => ?_) ?_
    · show Steps p.tables e below (Tj1.setTop (mkF m 3 #[.val (.ref a0), .val (.long q1), .second, .val (.long q2), .second, .val (.int ii)] [])) t
      refine XS.iload Xj1.here hx rfl (hb hby d3_3) rfl ?_
      show Steps p.tables e below (Tj1.setTop (mkF m 5 #[.val (.ref a0), .val (.long q1), .second, .val (.long q2), .second, .val (.int ii)] [(.int ii)])) t
      refine XS.bipush Xj1.here hx rfl (hb hby d3_5) ?_
      show Steps p.tables e below (Tj1.setTop (mkF m 7 #[.val (.ref a0), .val (.long q1), .second, .val (.long q2), .second, .val (.int ii)] [(.int (64 : Int32)), (.int ii)])) t
      exact kt
    by_cases hc7_2 : ii < (64 : Int32)
    · refine own_go (T' := Tj1) (f' := (mkF m 18 #[.val (.ref a0), .val (.long q1), .second, .val (.long q2), .second, .val (.int ii)] [(.int (lcmpW (((q1.toUInt64 >>> (ii &&& 0x3f).toInt64.toUInt64).toInt64) &&& (1 : Int64)) (0 : Int64)))])) (fun t kt => ?_) ?_
      · show Steps p.tables e below (Tj1.setTop (mkF m 7 #[.val (.ref a0), .val (.long q1), .second, .val (.long q2), .second, .val (.int ii)] [(.int (64 : Int32)), (.int ii)])) t
        refine XS.icmpNo Xj1.here hx rfl (hb hby d3_7) rfl (tlt hc7_2).2.1 ?_
        show Steps p.tables e below (Tj1.setTop (mkF m 10 #[.val (.ref a0), .val (.long q1), .second, .val (.long q2), .second, .val (.int ii)] [])) t
        refine XS.lloadN Xj1.here hx rfl (hb hby d3_10) rfl ?_
        show Steps p.tables e below (Tj1.setTop (mkF m 11 #[.val (.ref a0), .val (.long q1), .second, .val (.long q2), .second, .val (.int ii)] [(.long q1)])) t
        refine XS.iload Xj1.here hx rfl (hb hby d3_11) rfl ?_
        show Steps p.tables e below (Tj1.setTop (mkF m 13 #[.val (.ref a0), .val (.long q1), .second, .val (.long q2), .second, .val (.int ii)] [(.int ii), (.long q1)])) t
        refine XS.lushr Xj1.here hx rfl (hb hby d3_13) rfl ?_
        show Steps p.tables e below (Tj1.setTop (mkF m 14 #[.val (.ref a0), .val (.long q1), .second, .val (.long q2), .second, .val (.int ii)] [(.long ((q1.toUInt64 >>> (ii &&& 0x3f).toInt64.toUInt64).toInt64))])) t
        refine XS.lconst Xj1.here hx rfl (hb hby d3_14) ?_
        show Steps p.tables e below (Tj1.setTop (mkF m 15 #[.val (.ref a0), .val (.long q1), .second, .val (.long q2), .second, .val (.int ii)] [(.long (1 : Int64)), (.long ((q1.toUInt64 >>> (ii &&& 0x3f).toInt64.toUInt64).toInt64))])) t
        refine XS.land Xj1.here hx rfl (hb hby d3_15) rfl ?_
        show Steps p.tables e below (Tj1.setTop (mkF m 16 #[.val (.ref a0), .val (.long q1), .second, .val (.long q2), .second, .val (.int ii)] [(.long (((q1.toUInt64 >>> (ii &&& 0x3f).toInt64.toUInt64).toInt64) &&& (1 : Int64)))])) t
        refine XS.lconst Xj1.here hx rfl (hb hby d3_16) ?_
        show Steps p.tables e below (Tj1.setTop (mkF m 17 #[.val (.ref a0), .val (.long q1), .second, .val (.long q2), .second, .val (.int ii)] [(.long (0 : Int64)), (.long (((q1.toUInt64 >>> (ii &&& 0x3f).toInt64.toUInt64).toInt64) &&& (1 : Int64)))])) t
        refine XS.lcmp Xj1.here hx rfl (hb hby d3_17) rfl ?_
        show Steps p.tables e below (Tj1.setTop (mkF m 18 #[.val (.ref a0), .val (.long q1), .second, .val (.long q2), .second, .val (.int ii)] [(.int (lcmpW (((q1.toUInt64 >>> (ii &&& 0x3f).toInt64.toUInt64).toInt64) &&& (1 : Int64)) (0 : Int64)))])) t
        exact kt
      by_cases hc18_3 : (((q1.toUInt64 >>> (ii &&& 0x3f).toInt64.toUInt64).toInt64) &&& (1 : Int64)) = (0 : Int64)
      · refine own_go (T' := Tj1) (f' := (mkF m 43 #[.val (.ref a0), .val (.long q1), .second, .val (.long q2), .second, .val (.int ii)] [(.ref a0)])) (fun t kt => ?_) ?_
        · show Steps p.tables e below (Tj1.setTop (mkF m 18 #[.val (.ref a0), .val (.long q1), .second, .val (.long q2), .second, .val (.int ii)] [(.int (lcmpW (((q1.toUInt64 >>> (ii &&& 0x3f).toInt64.toUInt64).toInt64) &&& (1 : Int64)) (0 : Int64)))])) t
          refine XS.ifYes Xj1.here hx rfl (pc0 := 18) (pc' := 42) rfl (hb hby d3_18) rfl (own_lY_eq hc18_3) (by decide) (by decide) ?_
          show Steps p.tables e below (Tj1.setTop (mkF m 42 #[.val (.ref a0), .val (.long q1), .second, .val (.long q2), .second, .val (.int ii)] [])) t
          refine XS.aloadN Xj1.here hx rfl (hb hby d3_42) rfl rfl ?_
          show Steps p.tables e below (Tj1.setTop (mkF m 43 #[.val (.ref a0), .val (.long q1), .second, .val (.long q2), .second, .val (.int ii)] [(.ref a0)])) t
          exact kt
        obtain ⟨T4, X4, e4, st4⟩ := getF Xj1 hx hZ hown (host := "") (Or.inl (hw _ (List.mem_of_getElem? (i := 10) rfl))) Via.refl ej1 fj1_0 (g := (mkF m 43 #[.val (.ref a0), .val (.long q1), .second, .val (.long q2), .second, .val (.int ii)] [(.ref a0)])) rfl rfl (hb hby d3_43)
        refine own_go st4 ?_
        refine own_go (T' := T4) (f' := (mkF m 49 #[.val (.ref a0), .val (.long q1), .second, .val (.long q2), .second, .val (.int ii)] [(.ref a0), (.int ii), (.ref w0)])) (fun t kt => ?_) ?_
        · show Steps p.tables e below (T4.setTop (mkF m 46 #[.val (.ref a0), .val (.long q1), .second, .val (.long q2), .second, .val (.int ii)] [(.ref w0)])) t
          refine XS.iload X4.here hx rfl (hb hby d3_46) rfl ?_
          show Steps p.tables e below (T4.setTop (mkF m 48 #[.val (.ref a0), .val (.long q1), .second, .val (.long q2), .second, .val (.int ii)] [(.int ii), (.ref w0)])) t
          refine XS.aloadN X4.here hx rfl (hb hby d3_48) rfl rfl ?_
          show Steps p.tables e below (T4.setTop (mkF m 49 #[.val (.ref a0), .val (.long q1), .second, .val (.long q2), .second, .val (.int ii)] [(.ref a0), (.int ii), (.ref w0)])) t
          exact kt
        obtain ⟨T5, X5, e5, st5⟩ := getF X4 hx hZ hown (host := "") (Or.inl (hw _ (List.mem_of_getElem? (i := 10) rfl))) Via.refl e4 fj1_0 (g := (mkF m 49 #[.val (.ref a0), .val (.long q1), .second, .val (.long q2), .second, .val (.int ii)] [(.ref a0), (.int ii), (.ref w0)])) rfl rfl (hb hby d3_49)
        refine own_go st5 ?_
        refine own_go (T' := T5) (f' := (mkF m 56 #[.val (.ref a0), .val (.long q1), .second, .val (.long q2), .second, .val (.int ii)] [(.long q2), (.long (fj kk)), (.int ii), (.ref w0)])) (fun t kt => ?_) ?_
        · show Steps p.tables e below (T5.setTop (mkF m 52 #[.val (.ref a0), .val (.long q1), .second, .val (.long q2), .second, .val (.int ii)] [(.ref w0), (.int ii), (.ref w0)])) t
          refine XS.iload X5.here hx rfl (hb hby d3_52) rfl ?_
          show Steps p.tables e below (T5.setTop (mkF m 54 #[.val (.ref a0), .val (.long q1), .second, .val (.long q2), .second, .val (.int ii)] [(.int ii), (.ref w0), (.int ii), (.ref w0)])) t
          refine own_laload X5 hx hZ e5 fj1_1 (i := kk) hii ((own_lt64 hii).mp hc7_2) (g := (mkF m 54 #[.val (.ref a0), .val (.long q1), .second, .val (.long q2), .second, .val (.int ii)] [(.int ii), (.ref w0), (.int ii), (.ref w0)])) rfl rfl (hb hby d3_54) _ ?_
          show Steps p.tables e below (T5.setTop (mkF m 55 #[.val (.ref a0), .val (.long q1), .second, .val (.long q2), .second, .val (.int ii)] [(.long (fj kk)), (.int ii), (.ref w0)])) t
          refine XS.lloadN X5.here hx rfl (hb hby d3_55) rfl ?_
          show Steps p.tables e below (T5.setTop (mkF m 56 #[.val (.ref a0), .val (.long q1), .second, .val (.long q2), .second, .val (.int ii)] [(.long q2), (.long (fj kk)), (.int ii), (.ref w0)])) t
          exact kt
        refine own_callSp X5 hx hZ hown e5 (hw _ (List.mem_of_getElem? (i := 21) rfl)) (hw _ (List.mem_of_getElem? (i := 22) rfl)) (hw _ (List.mem_of_getElem? (i := 19) rfl)) (hw _ (List.mem_of_getElem? (i := 23) rfl)) (by decide) (rm5 l Z aw hw (fj kk) q2 hj1 n0 Zj1 (own_oka hF ((own_lt64 hii).mp hc7_2) hbd hM hw').2) (g := (mkF m 56 #[.val (.ref a0), .val (.long q1), .second, .val (.long q2), .second, .val (.int ii)] [(.long q2), (.long (fj kk)), (.int ii), (.ref w0)])) rfl (by rw [hml]; rfl) (argsL := [(.long (fj kk)), (.long q2)]) (rest := [(.int ii), (.ref w0)]) (lenOf pd_0 rfl) rfl rfl (W := 2) (by show 2 * 0 + _ ≤ _; exact Nat.le_of_eq rfl) (hb hby d3_56) (by decide) (by decide) (by decide) (by decide) ?_
        intro T6 X6 e6
        obtain ⟨T7, h7, X7, e7, W7, B7, st7⟩ := own_lastore X6 hx hZ e6 fj1_1 (i := kk) hii ((own_lt64 hii).mp hc7_2) (g := (mkF m 59 #[.val (.ref a0), .val (.long q1), .second, .val (.long q2), .second, .val (.int ii)] [(.long ((fj kk) - q2)), (.int ii), (.ref w0)])) rfl rfl (hb hby d3_59)
        refine own_go st7 ?_
        replace fj1_0 := (fj1_0.other W7 (Or.inl (ne_a0_w0)))
        have N7 := Fr.snoc X7 Nj1 g_w0
        have Z7 : n0 ≤ h7.size := Nat.le_trans Zj1 (Keep.of_wr W7).1
        have KK7 := Kj1.wr W7 (Or.inl (by simp))
        refine own_go (T' := T7) (f' := (mkF m 3 #[.val (.ref a0), .val (.long q1), .second, .val (.long q2), .second, .val (.int (ii + (1 : Int32)))] [])) (fun t kt => ?_) ?_
        · show Steps p.tables e below (T7.setTop (mkF m 60 #[.val (.ref a0), .val (.long q1), .second, .val (.long q2), .second, .val (.int ii)] [])) t
          refine XS.iinc X7.here hx rfl (hb hby d3_60) rfl (l' := #[.val (.ref a0), .val (.long q1), .second, .val (.long q2), .second, .val (.int (ii + (1 : Int32)))]) rfl ?_
          show Steps p.tables e below (T7.setTop (mkF m 63 #[.val (.ref a0), .val (.long q1), .second, .val (.long q2), .second, .val (.int (ii + (1 : Int32)))] [])) t
          refine XS.goto X7.here hx rfl (pc0 := 63) (pc' := 3) rfl (hb hby d3_63) (by decide) (by decide) ?_
          show Steps p.tables e below (T7.setTop (mkF m 3 #[.val (.ref a0), .val (.long q1), .second, .val (.long q2), .second, .val (.int (ii + (1 : Int32)))] [])) t
          exact kt
        exact IHJ3 (64 - (kk + 1)) (by have q := ((own_lt64 hii).mp hc7_2); omega) T7 _ h7 (own_set fj kk ((fj kk) - q2)) (ii + (1 : Int32)) (kk + 1) X7 N7 e7 Z7 KK7 fj1_0 B7 (own_inc hii ((own_lt64 hii).mp hc7_2)) (by have := ((own_lt64 hii).mp hc7_2); omega) (own_part1 hF ((own_lt64 hii).mp hc7_2) (by rw [own_step, if_pos ((own_b0 hii ((own_lt64 hii).mp hc7_2) q1).mp hc18_3), own_partk hF ((own_lt64 hii).mp hc7_2)])) rfl
      · refine own_go (T' := Tj1) (f' := (mkF m 22 #[.val (.ref a0), .val (.long q1), .second, .val (.long q2), .second, .val (.int ii)] [(.ref a0)])) (fun t kt => ?_) ?_
        · show Steps p.tables e below (Tj1.setTop (mkF m 18 #[.val (.ref a0), .val (.long q1), .second, .val (.long q2), .second, .val (.int ii)] [(.int (lcmpW (((q1.toUInt64 >>> (ii &&& 0x3f).toInt64.toUInt64).toInt64) &&& (1 : Int64)) (0 : Int64)))])) t
          refine XS.ifNo Xj1.here hx rfl (hb hby d3_18) rfl (own_lN_eq hc18_3) ?_
          show Steps p.tables e below (Tj1.setTop (mkF m 21 #[.val (.ref a0), .val (.long q1), .second, .val (.long q2), .second, .val (.int ii)] [])) t
          refine XS.aloadN Xj1.here hx rfl (hb hby d3_21) rfl rfl ?_
          show Steps p.tables e below (Tj1.setTop (mkF m 22 #[.val (.ref a0), .val (.long q1), .second, .val (.long q2), .second, .val (.int ii)] [(.ref a0)])) t
          exact kt
        obtain ⟨T8, X8, e8, st8⟩ := getF Xj1 hx hZ hown (host := "") (Or.inl (hw _ (List.mem_of_getElem? (i := 10) rfl))) Via.refl ej1 fj1_0 (g := (mkF m 22 #[.val (.ref a0), .val (.long q1), .second, .val (.long q2), .second, .val (.int ii)] [(.ref a0)])) rfl rfl (hb hby d3_22)
        refine own_go st8 ?_
        refine own_go (T' := T8) (f' := (mkF m 28 #[.val (.ref a0), .val (.long q1), .second, .val (.long q2), .second, .val (.int ii)] [(.ref a0), (.int ii), (.ref w0)])) (fun t kt => ?_) ?_
        · show Steps p.tables e below (T8.setTop (mkF m 25 #[.val (.ref a0), .val (.long q1), .second, .val (.long q2), .second, .val (.int ii)] [(.ref w0)])) t
          refine XS.iload X8.here hx rfl (hb hby d3_25) rfl ?_
          show Steps p.tables e below (T8.setTop (mkF m 27 #[.val (.ref a0), .val (.long q1), .second, .val (.long q2), .second, .val (.int ii)] [(.int ii), (.ref w0)])) t
          refine XS.aloadN X8.here hx rfl (hb hby d3_27) rfl rfl ?_
          show Steps p.tables e below (T8.setTop (mkF m 28 #[.val (.ref a0), .val (.long q1), .second, .val (.long q2), .second, .val (.int ii)] [(.ref a0), (.int ii), (.ref w0)])) t
          exact kt
        obtain ⟨T9, X9, e9, st9⟩ := getF X8 hx hZ hown (host := "") (Or.inl (hw _ (List.mem_of_getElem? (i := 10) rfl))) Via.refl e8 fj1_0 (g := (mkF m 28 #[.val (.ref a0), .val (.long q1), .second, .val (.long q2), .second, .val (.int ii)] [(.ref a0), (.int ii), (.ref w0)])) rfl rfl (hb hby d3_28)
        refine own_go st9 ?_
        refine own_go (T' := T9) (f' := (mkF m 35 #[.val (.ref a0), .val (.long q1), .second, .val (.long q2), .second, .val (.int ii)] [(.long q2), (.long (fj kk)), (.int ii), (.ref w0)])) (fun t kt => ?_) ?_
        · show Steps p.tables e below (T9.setTop (mkF m 31 #[.val (.ref a0), .val (.long q1), .second, .val (.long q2), .second, .val (.int ii)] [(.ref w0), (.int ii), (.ref w0)])) t
          refine XS.iload X9.here hx rfl (hb hby d3_31) rfl ?_
          show Steps p.tables e below (T9.setTop (mkF m 33 #[.val (.ref a0), .val (.long q1), .second, .val (.long q2), .second, .val (.int ii)] [(.int ii), (.ref w0), (.int ii), (.ref w0)])) t
          refine own_laload X9 hx hZ e9 fj1_1 (i := kk) hii ((own_lt64 hii).mp hc7_2) (g := (mkF m 33 #[.val (.ref a0), .val (.long q1), .second, .val (.long q2), .second, .val (.int ii)] [(.int ii), (.ref w0), (.int ii), (.ref w0)])) rfl rfl (hb hby d3_33) _ ?_
          show Steps p.tables e below (T9.setTop (mkF m 34 #[.val (.ref a0), .val (.long q1), .second, .val (.long q2), .second, .val (.int ii)] [(.long (fj kk)), (.int ii), (.ref w0)])) t
          refine XS.lloadN X9.here hx rfl (hb hby d3_34) rfl ?_
          show Steps p.tables e below (T9.setTop (mkF m 35 #[.val (.ref a0), .val (.long q1), .second, .val (.long q2), .second, .val (.int ii)] [(.long q2), (.long (fj kk)), (.int ii), (.ref w0)])) t
          exact kt
        refine own_callSp X9 hx hZ hown e9 (hw _ (List.mem_of_getElem? (i := 17) rfl)) (hw _ (List.mem_of_getElem? (i := 18) rfl)) (hw _ (List.mem_of_getElem? (i := 19) rfl)) (hw _ (List.mem_of_getElem? (i := 20) rfl)) (by decide) (rm4 l Z aw hw (fj kk) q2 hj1 n0 Zj1 (own_oka hF ((own_lt64 hii).mp hc7_2) hbd hM hw').1) (g := (mkF m 35 #[.val (.ref a0), .val (.long q1), .second, .val (.long q2), .second, .val (.int ii)] [(.long q2), (.long (fj kk)), (.int ii), (.ref w0)])) rfl (by rw [hml]; rfl) (argsL := [(.long (fj kk)), (.long q2)]) (rest := [(.int ii), (.ref w0)]) (lenOf pd_0 rfl) rfl rfl (W := 2) (by show 2 * 0 + _ ≤ _; exact Nat.le_of_eq rfl) (hb hby d3_35) (by decide) (by decide) (by decide) (by decide) ?_
        intro T10 X10 e10
        obtain ⟨T11, h11, X11, e11, W11, B11, st11⟩ := own_lastore X10 hx hZ e10 fj1_1 (i := kk) hii ((own_lt64 hii).mp hc7_2) (g := (mkF m 38 #[.val (.ref a0), .val (.long q1), .second, .val (.long q2), .second, .val (.int ii)] [(.long ((fj kk) + q2)), (.int ii), (.ref w0)])) rfl rfl (hb hby d3_38)
        refine own_go st11 ?_
        replace fj1_0 := (fj1_0.other W11 (Or.inl (ne_a0_w0)))
        have N11 := Fr.snoc X11 Nj1 g_w0
        have Z11 : n0 ≤ h11.size := Nat.le_trans Zj1 (Keep.of_wr W11).1
        have KK11 := Kj1.wr W11 (Or.inl (by simp))
        refine own_go (T' := T11) (f' := (mkF m 3 #[.val (.ref a0), .val (.long q1), .second, .val (.long q2), .second, .val (.int (ii + (1 : Int32)))] [])) (fun t kt => ?_) ?_
        · show Steps p.tables e below (T11.setTop (mkF m 39 #[.val (.ref a0), .val (.long q1), .second, .val (.long q2), .second, .val (.int ii)] [])) t
          refine XS.goto X11.here hx rfl (pc0 := 39) (pc' := 60) rfl (hb hby d3_39) (by decide) (by decide) ?_
          show Steps p.tables e below (T11.setTop (mkF m 60 #[.val (.ref a0), .val (.long q1), .second, .val (.long q2), .second, .val (.int ii)] [])) t
          refine XS.iinc X11.here hx rfl (hb hby d3_60) rfl (l' := #[.val (.ref a0), .val (.long q1), .second, .val (.long q2), .second, .val (.int (ii + (1 : Int32)))]) rfl ?_
          show Steps p.tables e below (T11.setTop (mkF m 63 #[.val (.ref a0), .val (.long q1), .second, .val (.long q2), .second, .val (.int (ii + (1 : Int32)))] [])) t
          refine XS.goto X11.here hx rfl (pc0 := 63) (pc' := 3) rfl (hb hby d3_63) (by decide) (by decide) ?_
          show Steps p.tables e below (T11.setTop (mkF m 3 #[.val (.ref a0), .val (.long q1), .second, .val (.long q2), .second, .val (.int (ii + (1 : Int32)))] [])) t
          exact kt
        exact IHJ3 (64 - (kk + 1)) (by have q := ((own_lt64 hii).mp hc7_2); omega) T11 _ h11 (own_set fj kk ((fj kk) + q2)) (ii + (1 : Int32)) (kk + 1) X11 N11 e11 Z11 KK11 fj1_0 B11 (own_inc hii ((own_lt64 hii).mp hc7_2)) (by have := ((own_lt64 hii).mp hc7_2); omega) (own_part1 hF ((own_lt64 hii).mp hc7_2) (by rw [own_step, if_neg (mt (own_b0 hii ((own_lt64 hii).mp hc7_2) q1).mpr hc18_3), own_partk hF ((own_lt64 hii).mp hc7_2)])) rfl
    · refine own_go (T' := Tj1) (f' := (mkF m 66 #[.val (.ref a0), .val (.long q1), .second, .val (.long q2), .second, .val (.int ii)] [])) (fun t kt => ?_) ?_
      · show Steps p.tables e below (Tj1.setTop (mkF m 7 #[.val (.ref a0), .val (.long q1), .second, .val (.long q2), .second, .val (.int ii)] [(.int (64 : Int32)), (.int ii)])) t
        refine XS.icmpYes Xj1.here hx rfl (pc0 := 7) (pc' := 66) rfl (hb hby d3_7) rfl (flt hc7_2).2.1 (by decide) (by decide) ?_
        show Steps p.tables e below (Tj1.setTop (mkF m 66 #[.val (.ref a0), .val (.long q1), .second, .val (.long q2), .second, .val (.int ii)] [])) t
        exact kt
      exact own_retV Xj1 hP hx hlk ej1 hret (hb hby d3_66) (by decide) (by decide) ⟨rfl, Nj1, Kj1, (fj1_1.congr fun x hx => congrArg Value.long (own_partf hF (mt (own_lt64 hii).mpr hc7_2) x hx))⟩
  exact J3 64 s₁ _ h0 f (0 : Int32) 0 X0 N0 e0 Z0 K0 F_a0_sums Ar_w0 rfl (by decide) (own_part0 q1 q2 f) rfl
theorem d6_0 : decode prog_23_method_6_code 0 = .ok (.lconst 0, 1) := by decide +kernel
theorem d6_1 : decode prog_23_method_6_code 1 = .ok (.lstore_n 1, 1) := by decide +kernel
theorem d6_2 : decode prog_23_method_6_code 2 = .ok (.iconst 0, 1) := by decide +kernel
theorem d6_3 : decode prog_23_method_6_code 3 = .ok (.istore_n 3, 1) := by decide +kernel
theorem d6_4 : decode prog_23_method_6_code 4 = .ok (.iload_n 3, 1) := by decide +kernel
theorem d6_5 : decode prog_23_method_6_code 5 = .ok (.bipush 64, 2) := by decide +kernel
theorem d6_7 : decode prog_23_method_6_code 7 = .ok (.if_icmp .ge 26, 3) := by decide +kernel
theorem d6_10 : decode prog_23_method_6_code 10 = .ok (.aload_n 0, 1) := by decide +kernel
theorem d6_11 : decode prog_23_method_6_code 11 = .ok (.getfield 9, 3) := by decide +kernel
theorem d6_14 : decode prog_23_method_6_code 14 = .ok (.iload_n 3, 1) := by decide +kernel
theorem d6_15 : decode prog_23_method_6_code 15 = .ok (.laload, 1) := by decide +kernel
theorem d6_16 : decode prog_23_method_6_code 16 = .ok (.lconst 0, 1) := by decide +kernel
theorem d6_17 : decode prog_23_method_6_code 17 = .ok (.lcmp, 1) := by decide +kernel
theorem d6_18 : decode prog_23_method_6_code 18 = .ok (.ifCond .le 9, 3) := by decide +kernel
theorem d6_21 : decode prog_23_method_6_code 21 = .ok (.lload_n 1, 1) := by decide +kernel
theorem d6_22 : decode prog_23_method_6_code 22 = .ok (.lconst 1, 1) := by decide +kernel
theorem d6_23 : decode prog_23_method_6_code 23 = .ok (.iload_n 3, 1) := by decide +kernel
theorem d6_24 : decode prog_23_method_6_code 24 = .ok (.lshl, 1) := by decide +kernel
theorem d6_25 : decode prog_23_method_6_code 25 = .ok (.lor, 1) := by decide +kernel
theorem d6_26 : decode prog_23_method_6_code 26 = .ok (.lstore_n 1, 1) := by decide +kernel
theorem d6_27 : decode prog_23_method_6_code 27 = .ok (.iinc 3 1, 3) := by decide +kernel
theorem d6_30 : decode prog_23_method_6_code 30 = .ok (.goto (-26), 3) := by decide +kernel
theorem d6_33 : decode prog_23_method_6_code 33 = .ok (.lload_n 1, 1) := by decide +kernel
theorem d6_34 : decode prog_23_method_6_code 34 = .ok (.lreturn, 1) := by decide +kernel
set_option maxRecDepth 65536 in
set_option maxHeartbeats 4000000 in
theorem ef_6 (m : MethodId) (a0 : Addr) : entryFrame m #[(.ref a0)] 4 = mkF m 0 #[.val (.ref a0), .unset, .unset, .unset] [] := by first | (simp [entryFrame, mkF, argsToLocals, Value.category]; done) | rfl
set_option maxRecDepth 65536 in
set_option maxHeartbeats 40000000 in
theorem rm6 (l : Launch) (Z : State) (aw : Array Value) (hw : ∀ d ∈ tables_1, d.before aw Z = true) {ws : List Jvm.Cond} (a0 : Addr) (w0 : Addr) (f : Nat → Int64) (h0 : Heap) (n0 : Nat) (Z0 : n0 ≤ h0.size) (F_a0_sums : Fld Z h0 a0 "com/example/resemblr/resemblr/SimHash" "sums" "[J" (.ref w0)) (Ar_w0 : own_AJ Z h0 w0 64 f) :
    own_Met l Z (⟨"com/example/resemblr/resemblr/SimHash", "fingerprint", "()J"⟩ : MethodName) prog_23_method_6_code 4 (some .long) ws ({ frames := 0, cells := 0, slots := 0, locals := 0 } : Room) #[(.ref a0)] h0 (own_Pq (some (.long (own_fp 64 f))) h0) := by
  refine own_body (plainFor_of_name pn_0) ?_
  intro p e s m below meth c s₁ hx hZ hby hml hown hnm hret hlk X0 e0
  replace hown : s.vm.findClass "com/example/resemblr/resemblr/SimHash" = some m.cls := hown
  replace hml : c.maxLocals = 4 := hml
  obtain ⟨P, hP⟩ : ∃ P, P = own_P below s (own_Pq (some (.long (own_fp 64 f))) h0) ({ frames := 0, cells := 0, slots := 0, locals := 0 } : Room).cells ({ frames := 0, cells := 0, slots := 0, locals := 0 } : Room).slots := ⟨_, rfl⟩
  rw [← hP]
  refine own_cast (ef_6 m a0) ?_
  refine own_go (T' := s₁) (f' := (mkF m 4 #[.val (.ref a0), .val (.long (0 : Int64)), .second, .val (.int (0 : Int32))] [])) (fun t kt => ?_) ?_
  · show Steps p.tables e below (s₁.setTop (mkF m 0 #[.val (.ref a0), .unset, .unset, .unset] [])) t
    refine XS.lconst X0.here hx rfl (hb hby d6_0) ?_
    show Steps p.tables e below (s₁.setTop (mkF m 1 #[.val (.ref a0), .unset, .unset, .unset] [(.long (0 : Int64))])) t
    refine XS.lstoreN X0.here hx rfl (hb hby d6_1) rfl (l' := #[.val (.ref a0), .val (.long (0 : Int64)), .second, .unset]) rfl ?_
    show Steps p.tables e below (s₁.setTop (mkF m 2 #[.val (.ref a0), .val (.long (0 : Int64)), .second, .unset] [])) t
    refine XS.iconst X0.here hx rfl (hb hby d6_2) ?_
    show Steps p.tables e below (s₁.setTop (mkF m 3 #[.val (.ref a0), .val (.long (0 : Int64)), .second, .unset] [(.int (0 : Int32))])) t
    refine XS.istoreN X0.here hx rfl (hb hby d6_3) rfl (l' := #[.val (.ref a0), .val (.long (0 : Int64)), .second, .val (.int (0 : Int32))]) rfl ?_
    show Steps p.tables e below (s₁.setTop (mkF m 4 #[.val (.ref a0), .val (.long (0 : Int64)), .second, .val (.int (0 : Int32))] [])) t
    exact kt
  have J4 : ∀ (mk : Nat) (Tj1 : State) (lj1 : List Loc) (bb : Int64) (ii : Int32) (kk : Nat) (Xj1 : Stand p l e ({ frames := 0, cells := 0, slots := 0, locals := 0 } : Room) s m #[(.ref a0)] below meth c Tj1 lj1 0 0) (Nj1 : lj1 = []) (ej1 : Tj1.heap = h0) (hii : ii.toInt = (kk : Int)) (hk : kk ≤ 64) (hb' : bb = own_fp kk f) (hmk : mk = 64 - kk), own_End p e below P Tj1 (mkF m 4 #[.val (.ref a0), .val (.long bb), .second, .val (.int ii)] []) := by
    intro mk
    induction mk using Nat.strongRecOn with
    | _ mk IHJ4 =>
    intro Tj1 lj1 bb ii kk Xj1 Nj1 ej1 hii hk hb' hmk
    subst Nj1
    refine own_go (T' := Tj1) (f' := (mkF m 7 #[.val (.ref a0), .val (.long bb), .second, .val (.int ii)] [(.int (64 : Int32)), (.int ii)])) (fun t kt => ?_) ?_
    · show Steps p.tables e below (Tj1.setTop (mkF m 4 #[.val (.ref a0), .val (.long bb), .second, .val (.int ii)] [])) t
      refine XS.iloadN Xj1.here hx rfl (hb hby d6_4) rfl ?_
      show Steps p.tables e below (Tj1.setTop (mkF m 5 #[.val (.ref a0), .val (.long bb), .second, .val (.int ii)] [(.int ii)])) t
      refine XS.bipush Xj1.here hx rfl (hb hby d6_5) ?_
      show Steps p.tables e below (Tj1.setTop (mkF m 7 #[.val (.ref a0), .val (.long bb), .second, .val (.int ii)] [(.int (64 : Int32)), (.int ii)])) t
      exact kt
    by_cases hc7_2 : ii < (64 : Int32)
    · refine own_go (T' := Tj1) (f' := (mkF m 11 #[.val (.ref a0), .val (.long bb), .second, .val (.int ii)] [(.ref a0)])) (fun t kt => ?_) ?_
      · show Steps p.tables e below (Tj1.setTop (mkF m 7 #[.val (.ref a0), .val (.long bb), .second, .val (.int ii)] [(.int (64 : Int32)), (.int ii)])) t
        refine XS.icmpNo Xj1.here hx rfl (hb hby d6_7) rfl (tlt hc7_2).2.1 ?_
        show Steps p.tables e below (Tj1.setTop (mkF m 10 #[.val (.ref a0), .val (.long bb), .second, .val (.int ii)] [])) t
        refine XS.aloadN Xj1.here hx rfl (hb hby d6_10) rfl rfl ?_
        show Steps p.tables e below (Tj1.setTop (mkF m 11 #[.val (.ref a0), .val (.long bb), .second, .val (.int ii)] [(.ref a0)])) t
        exact kt
      obtain ⟨T3, X3, e3, st3⟩ := getF Xj1 hx hZ hown (host := "") (Or.inl (hw _ (List.mem_of_getElem? (i := 10) rfl))) Via.refl ej1 F_a0_sums (g := (mkF m 11 #[.val (.ref a0), .val (.long bb), .second, .val (.int ii)] [(.ref a0)])) rfl rfl (hb hby d6_11)
      refine own_go st3 ?_
      refine own_go (T' := T3) (f' := (mkF m 18 #[.val (.ref a0), .val (.long bb), .second, .val (.int ii)] [(.int (lcmpW (f kk) (0 : Int64)))])) (fun t kt => ?_) ?_
      · show Steps p.tables e below (T3.setTop (mkF m 14 #[.val (.ref a0), .val (.long bb), .second, .val (.int ii)] [(.ref w0)])) t
        refine XS.iloadN X3.here hx rfl (hb hby d6_14) rfl ?_
        show Steps p.tables e below (T3.setTop (mkF m 15 #[.val (.ref a0), .val (.long bb), .second, .val (.int ii)] [(.int ii), (.ref w0)])) t
        refine own_laload X3 hx hZ e3 Ar_w0 (i := kk) hii ((own_lt64 hii).mp hc7_2) (g := (mkF m 15 #[.val (.ref a0), .val (.long bb), .second, .val (.int ii)] [(.int ii), (.ref w0)])) rfl rfl (hb hby d6_15) _ ?_
        show Steps p.tables e below (T3.setTop (mkF m 16 #[.val (.ref a0), .val (.long bb), .second, .val (.int ii)] [(.long (f kk))])) t
        refine XS.lconst X3.here hx rfl (hb hby d6_16) ?_
        show Steps p.tables e below (T3.setTop (mkF m 17 #[.val (.ref a0), .val (.long bb), .second, .val (.int ii)] [(.long (0 : Int64)), (.long (f kk))])) t
        refine XS.lcmp X3.here hx rfl (hb hby d6_17) rfl ?_
        show Steps p.tables e below (T3.setTop (mkF m 18 #[.val (.ref a0), .val (.long bb), .second, .val (.int ii)] [(.int (lcmpW (f kk) (0 : Int64)))])) t
        exact kt
      by_cases hc18_4 : (0 : Int64) < (f kk)
      · refine own_go (T' := T3) (f' := (mkF m 4 #[.val (.ref a0), .val (.long (bb ||| ((1 : Int64) <<< (ii &&& 0x3f).toInt64))), .second, .val (.int (ii + (1 : Int32)))] [])) (fun t kt => ?_) ?_
        · show Steps p.tables e below (T3.setTop (mkF m 18 #[.val (.ref a0), .val (.long bb), .second, .val (.int ii)] [(.int (lcmpW (f kk) (0 : Int64)))])) t
          refine XS.ifNo X3.here hx rfl (hb hby d6_18) rfl (own_lN_le hc18_4) ?_
          show Steps p.tables e below (T3.setTop (mkF m 21 #[.val (.ref a0), .val (.long bb), .second, .val (.int ii)] [])) t
          refine XS.lloadN X3.here hx rfl (hb hby d6_21) rfl ?_
          show Steps p.tables e below (T3.setTop (mkF m 22 #[.val (.ref a0), .val (.long bb), .second, .val (.int ii)] [(.long bb)])) t
          refine XS.lconst X3.here hx rfl (hb hby d6_22) ?_
          show Steps p.tables e below (T3.setTop (mkF m 23 #[.val (.ref a0), .val (.long bb), .second, .val (.int ii)] [(.long (1 : Int64)), (.long bb)])) t
          refine XS.iloadN X3.here hx rfl (hb hby d6_23) rfl ?_
          show Steps p.tables e below (T3.setTop (mkF m 24 #[.val (.ref a0), .val (.long bb), .second, .val (.int ii)] [(.int ii), (.long (1 : Int64)), (.long bb)])) t
          refine XS.lshl X3.here hx rfl (hb hby d6_24) rfl ?_
          show Steps p.tables e below (T3.setTop (mkF m 25 #[.val (.ref a0), .val (.long bb), .second, .val (.int ii)] [(.long ((1 : Int64) <<< (ii &&& 0x3f).toInt64)), (.long bb)])) t
          refine XS.lor X3.here hx rfl (hb hby d6_25) rfl ?_
          show Steps p.tables e below (T3.setTop (mkF m 26 #[.val (.ref a0), .val (.long bb), .second, .val (.int ii)] [(.long (bb ||| ((1 : Int64) <<< (ii &&& 0x3f).toInt64)))])) t
          refine XS.lstoreN X3.here hx rfl (hb hby d6_26) rfl (l' := #[.val (.ref a0), .val (.long (bb ||| ((1 : Int64) <<< (ii &&& 0x3f).toInt64))), .second, .val (.int ii)]) rfl ?_
          show Steps p.tables e below (T3.setTop (mkF m 27 #[.val (.ref a0), .val (.long (bb ||| ((1 : Int64) <<< (ii &&& 0x3f).toInt64))), .second, .val (.int ii)] [])) t
          refine XS.iinc X3.here hx rfl (hb hby d6_27) rfl (l' := #[.val (.ref a0), .val (.long (bb ||| ((1 : Int64) <<< (ii &&& 0x3f).toInt64))), .second, .val (.int (ii + (1 : Int32)))]) rfl ?_
          show Steps p.tables e below (T3.setTop (mkF m 30 #[.val (.ref a0), .val (.long (bb ||| ((1 : Int64) <<< (ii &&& 0x3f).toInt64))), .second, .val (.int (ii + (1 : Int32)))] [])) t
          refine XS.goto X3.here hx rfl (pc0 := 30) (pc' := 4) rfl (hb hby d6_30) (by decide) (by decide) ?_
          show Steps p.tables e below (T3.setTop (mkF m 4 #[.val (.ref a0), .val (.long (bb ||| ((1 : Int64) <<< (ii &&& 0x3f).toInt64))), .second, .val (.int (ii + (1 : Int32)))] [])) t
          exact kt
        exact IHJ4 (64 - (kk + 1)) (by have q := ((own_lt64 hii).mp hc7_2); omega) T3 _ (bb ||| ((1 : Int64) <<< (ii &&& 0x3f).toInt64)) (ii + (1 : Int32)) (kk + 1) X3 rfl e3 (own_inc hii ((own_lt64 hii).mp hc7_2)) (by have := ((own_lt64 hii).mp hc7_2); omega) (by rw [own_fp, if_pos hc18_4, hb']; rw [own_sh hii ((own_lt64 hii).mp hc7_2)]) rfl
      · refine own_go (T' := T3) (f' := (mkF m 4 #[.val (.ref a0), .val (.long bb), .second, .val (.int (ii + (1 : Int32)))] [])) (fun t kt => ?_) ?_
        · show Steps p.tables e below (T3.setTop (mkF m 18 #[.val (.ref a0), .val (.long bb), .second, .val (.int ii)] [(.int (lcmpW (f kk) (0 : Int64)))])) t
          refine XS.ifYes X3.here hx rfl (pc0 := 18) (pc' := 27) rfl (hb hby d6_18) rfl (own_lY_le hc18_4) (by decide) (by decide) ?_
          show Steps p.tables e below (T3.setTop (mkF m 27 #[.val (.ref a0), .val (.long bb), .second, .val (.int ii)] [])) t
          refine XS.iinc X3.here hx rfl (hb hby d6_27) rfl (l' := #[.val (.ref a0), .val (.long bb), .second, .val (.int (ii + (1 : Int32)))]) rfl ?_
          show Steps p.tables e below (T3.setTop (mkF m 30 #[.val (.ref a0), .val (.long bb), .second, .val (.int (ii + (1 : Int32)))] [])) t
          refine XS.goto X3.here hx rfl (pc0 := 30) (pc' := 4) rfl (hb hby d6_30) (by decide) (by decide) ?_
          show Steps p.tables e below (T3.setTop (mkF m 4 #[.val (.ref a0), .val (.long bb), .second, .val (.int (ii + (1 : Int32)))] [])) t
          exact kt
        exact IHJ4 (64 - (kk + 1)) (by have q := ((own_lt64 hii).mp hc7_2); omega) T3 _ bb (ii + (1 : Int32)) (kk + 1) X3 rfl e3 (own_inc hii ((own_lt64 hii).mp hc7_2)) (by have := ((own_lt64 hii).mp hc7_2); omega) (by rw [own_fp, if_neg hc18_4, hb']) rfl
    · refine own_go (T' := Tj1) (f' := (mkF m 34 #[.val (.ref a0), .val (.long bb), .second, .val (.int ii)] [(.long bb)])) (fun t kt => ?_) ?_
      · show Steps p.tables e below (Tj1.setTop (mkF m 7 #[.val (.ref a0), .val (.long bb), .second, .val (.int ii)] [(.int (64 : Int32)), (.int ii)])) t
        refine XS.icmpYes Xj1.here hx rfl (pc0 := 7) (pc' := 33) rfl (hb hby d6_7) rfl (flt hc7_2).2.1 (by decide) (by decide) ?_
        show Steps p.tables e below (Tj1.setTop (mkF m 33 #[.val (.ref a0), .val (.long bb), .second, .val (.int ii)] [])) t
        refine XS.lloadN Xj1.here hx rfl (hb hby d6_33) rfl ?_
        show Steps p.tables e below (Tj1.setTop (mkF m 34 #[.val (.ref a0), .val (.long bb), .second, .val (.int ii)] [(.long bb)])) t
        exact kt
      exact own_retJ Xj1 hP hx hlk ej1 hret (hb hby d6_34) (by decide) (by decide) ⟨(by have e : kk = 64 := (by have := mt (own_lt64 hii).mpr hc7_2; omega); rw [hb', e]), rfl, rfl⟩
  exact J4 64 s₁ _ (0 : Int64) (0 : Int32) 0 X0 rfl e0 rfl (by decide) rfl rfl
theorem pn_1 : plainName "com/example/resemblr/resemblr/SimHashFingerprintPinLaw" = true := by first | (simp [plainName, overriddenIn]; done) | decide +kernel
theorem d7_0 : decode method_2_code 0 = .ok (.iload_n 0, 1) := by decide +kernel
theorem d7_1 : decode method_2_code 1 = .ok (.ifCond .eq 7, 3) := by decide +kernel
theorem d7_4 : decode method_2_code 4 = .ok (.lload_n 1, 1) := by decide +kernel
theorem d7_5 : decode method_2_code 5 = .ok (.goto 4, 3) := by decide +kernel
theorem d7_8 : decode method_2_code 8 = .ok (.lconst 0, 1) := by decide +kernel
theorem d7_9 : decode method_2_code 9 = .ok (.lreturn, 1) := by decide +kernel
set_option maxRecDepth 65536 in
set_option maxHeartbeats 4000000 in
theorem ef_7 (m : MethodId) (p0 : Int32) (q1 : Int64) : entryFrame m #[(.int p0), (.long q1)] 3 = mkF m 0 #[.val (.int p0), .val (.long q1), .second] [] := by first | (simp [entryFrame, mkF, argsToLocals, Value.category]; done) | rfl
set_option maxRecDepth 65536 in
set_option maxHeartbeats 40000000 in
theorem rm7 (l : Launch) (Z : State) (aw : Array Value) (hw : ∀ d ∈ tables_1, d.before aw Z = true) {ws : List Jvm.Cond} (p0 : Int32) (q1 : Int64)  (h0 : Heap) (n0 : Nat) (Z0 : n0 ≤ h0.size)  :
    own_Met l Z (⟨"com/example/resemblr/resemblr/SimHashFingerprintPinLaw", "keep", "(ZJ)J"⟩ : MethodName) method_2_code 3 (some .long) ws ({ frames := 0, cells := 0, slots := 0, locals := 0 } : Room) #[(.int p0), (.long q1)] h0 (own_Pq (some (.long (own_kp p0 q1))) h0) := by
  refine own_body (plainFor_of_name pn_1) ?_
  intro p e s m below meth c s₁ hx hZ hby hml hown hnm hret hlk X0 e0
  replace hown : s.vm.findClass "com/example/resemblr/resemblr/SimHashFingerprintPinLaw" = some m.cls := hown
  replace hml : c.maxLocals = 3 := hml
  obtain ⟨P, hP⟩ : ∃ P, P = own_P below s (own_Pq (some (.long (own_kp p0 q1))) h0) ({ frames := 0, cells := 0, slots := 0, locals := 0 } : Room).cells ({ frames := 0, cells := 0, slots := 0, locals := 0 } : Room).slots := ⟨_, rfl⟩
  rw [← hP]
  refine own_cast (ef_7 m p0 q1) ?_
  refine own_go (T' := s₁) (f' := (mkF m 1 #[.val (.int p0), .val (.long q1), .second] [(.int p0)])) (fun t kt => ?_) ?_
  · show Steps p.tables e below (s₁.setTop (mkF m 0 #[.val (.int p0), .val (.long q1), .second] [])) t
    refine XS.iloadN X0.here hx rfl (hb hby d7_0) rfl ?_
    show Steps p.tables e below (s₁.setTop (mkF m 1 #[.val (.int p0), .val (.long q1), .second] [(.int p0)])) t
    exact kt
  by_cases hc1_1 : p0 = (0 : Int32)
  · refine own_go (T' := s₁) (f' := (mkF m 9 #[.val (.int p0), .val (.long q1), .second] [(.long (0 : Int64))])) (fun t kt => ?_) ?_
    · show Steps p.tables e below (s₁.setTop (mkF m 1 #[.val (.int p0), .val (.long q1), .second] [(.int p0)])) t
      refine XS.ifYes X0.here hx rfl (pc0 := 1) (pc' := 8) rfl (hb hby d7_1) rfl ((if0 _ _).trans (teq hc1_1).1) (by decide) (by decide) ?_
      show Steps p.tables e below (s₁.setTop (mkF m 8 #[.val (.int p0), .val (.long q1), .second] [])) t
      refine XS.lconst X0.here hx rfl (hb hby d7_8) ?_
      show Steps p.tables e below (s₁.setTop (mkF m 9 #[.val (.int p0), .val (.long q1), .second] [(.long (0 : Int64))])) t
      exact kt
    exact own_retJ X0 hP hx hlk e0 hret (hb hby d7_9) (by decide) (by decide) ⟨(by rw [own_kp, if_pos hc1_1]), rfl, rfl⟩
  · refine own_go (T' := s₁) (f' := (mkF m 9 #[.val (.int p0), .val (.long q1), .second] [(.long q1)])) (fun t kt => ?_) ?_
    · show Steps p.tables e below (s₁.setTop (mkF m 1 #[.val (.int p0), .val (.long q1), .second] [(.int p0)])) t
      refine XS.ifNo X0.here hx rfl (hb hby d7_1) rfl ((if0 _ _).trans (feq hc1_1).1) ?_
      show Steps p.tables e below (s₁.setTop (mkF m 4 #[.val (.int p0), .val (.long q1), .second] [])) t
      refine XS.lloadN X0.here hx rfl (hb hby d7_4) rfl ?_
      show Steps p.tables e below (s₁.setTop (mkF m 5 #[.val (.int p0), .val (.long q1), .second] [(.long q1)])) t
      refine XS.goto X0.here hx rfl (pc0 := 5) (pc' := 9) rfl (hb hby d7_5) (by decide) (by decide) ?_
      show Steps p.tables e below (s₁.setTop (mkF m 9 #[.val (.int p0), .val (.long q1), .second] [(.long q1)])) t
      exact kt
    exact own_retJ X0 hP hx hlk e0 hret (hb hby d7_9) (by decide) (by decide) ⟨(by rw [own_kp, if_neg hc1_1]), rfl, rfl⟩
theorem pd_1 : parseMethodDescriptor "()V" = some ⟨[], none⟩ := by decide +kernel
theorem pd_2 : parseMethodDescriptor "(JJ)V" = some ⟨[.long, .long], none⟩ := by decide +kernel
theorem pd_3 : parseMethodDescriptor "()J" = some ⟨[], some .long⟩ := by decide +kernel
theorem pd_4 : parseMethodDescriptor "(ZJ)J" = some ⟨[.boolean, .long], some .long⟩ := by decide +kernel
set_option maxRecDepth 65536 in
set_option maxHeartbeats 4000000 in
theorem ef_0 (m : MethodId) (q0 : Int64) (q1 : Int64) (q2 : Int64) (q3 : Int64) (q4 : Int64) (q5 : Int64) : entryFrame m #[(.long q0), (.long q1), (.long q2), (.long q3), (.long q4), (.long q5)] maxLocals = mkF m 0 #[.val (.long q0), .second, .val (.long q1), .second, .val (.long q2), .second, .val (.long q3), .second, .val (.long q4), .second, .val (.long q5), .second, .unset, .unset, .unset, .unset, .unset, .unset, .unset, .unset, .unset, .unset, .unset, .unset, .unset, .unset, .unset, .unset, .unset] [] := by first | (simp [entryFrame, mkF, argsToLocals, Value.category, maxLocals]; done) | rfl
set_option maxRecDepth 65536 in
set_option maxHeartbeats 40000000 in
theorem rm0 (l : Launch) (Z : State) (aw : Array Value) (hw : ∀ d ∈ tables_1, d.before aw Z = true) {ws : List Jvm.Cond} (q0 : Int64) (q1 : Int64) (q2 : Int64) (q3 : Int64) (q4 : Int64) (q5 : Int64)  (h0 : Heap) (n0 : Nat) (Z0 : n0 ≤ h0.size)  :
    own_Met l Z x code maxLocals ret ws room_1 #[(.long q0), (.long q1), (.long q2), (.long q3), (.long q4), (.long q5)] h0 (fun v h L => v = some (.int 1) ∧ Fr n0 L) := by
  refine own_body (plainFor_of_name pn_1) ?_
  intro p e s m below meth c s₁ hx hZ hby hml hown hnm hret hlk X0 e0
  replace hown : s.vm.findClass "com/example/resemblr/resemblr/SimHashFingerprintPinLaw" = some m.cls := hown
  replace hml : c.maxLocals = 29 := hml
  have N0 := Fr.nil n0
  have K0 := Keep.refl h0 []
  obtain ⟨P, hP⟩ : ∃ P, P = own_P below s (fun v h L => v = some (.int 1) ∧ Fr n0 L) room_1.cells room_1.slots := ⟨_, rfl⟩
  rw [← hP]
  refine own_cast (ef_0 m q0 q1 q2 q3 q4 q5) ?_
  refine own_go (T' := s₁) (f' := (mkF m 4 #[.val (.long q0), .second, .val (.long q1), .second, .val (.long q2), .second, .val (.long q3), .second, .val (.long q4), .second, .val (.long q5), .second, .unset, .unset, .unset, .unset, .unset, .unset, .unset, .unset, .unset, .unset, .unset, .unset, .unset, .unset, .unset, .unset, .unset] [(.long (q3 >>> ((2 : Int32) &&& 0x3f).toInt64))])) (fun t kt => ?_) ?_
  · show Steps p.tables e below (s₁.setTop (mkF m 0 #[.val (.long q0), .second, .val (.long q1), .second, .val (.long q2), .second, .val (.long q3), .second, .val (.long q4), .second, .val (.long q5), .second, .unset, .unset, .unset, .unset, .unset, .unset, .unset, .unset, .unset, .unset, .unset, .unset, .unset, .unset, .unset, .unset, .unset] [])) t
    refine XS.lload X0.here hx rfl (hb hby at_0) rfl ?_
    show Steps p.tables e below (s₁.setTop (mkF m 2 #[.val (.long q0), .second, .val (.long q1), .second, .val (.long q2), .second, .val (.long q3), .second, .val (.long q4), .second, .val (.long q5), .second, .unset, .unset, .unset, .unset, .unset, .unset, .unset, .unset, .unset, .unset, .unset, .unset, .unset, .unset, .unset, .unset, .unset] [(.long q3)])) t
    refine XS.iconst X0.here hx rfl (hb hby at_2) ?_
    show Steps p.tables e below (s₁.setTop (mkF m 3 #[.val (.long q0), .second, .val (.long q1), .second, .val (.long q2), .second, .val (.long q3), .second, .val (.long q4), .second, .val (.long q5), .second, .unset, .unset, .unset, .unset, .unset, .unset, .unset, .unset, .unset, .unset, .unset, .unset, .unset, .unset, .unset, .unset, .unset] [(.int (2 : Int32)), (.long q3)])) t
    refine XS.lshr X0.here hx rfl (hb hby at_3) rfl ?_
    show Steps p.tables e below (s₁.setTop (mkF m 4 #[.val (.long q0), .second, .val (.long q1), .second, .val (.long q2), .second, .val (.long q3), .second, .val (.long q4), .second, .val (.long q5), .second, .unset, .unset, .unset, .unset, .unset, .unset, .unset, .unset, .unset, .unset, .unset, .unset, .unset, .unset, .unset, .unset, .unset] [(.long (q3 >>> ((2 : Int32) &&& 0x3f).toInt64))])) t
    exact kt
  obtain ⟨va, hva⟩ : ∃ z, z = (q3 >>> ((2 : Int32) &&& 0x3f).toInt64) := ⟨_, rfl⟩
  rw [← hva]
  refine own_go (T' := s₁) (f' := (mkF m 10 #[.val (.long q0), .second, .val (.long q1), .second, .val (.long q2), .second, .val (.long q3), .second, .val (.long q4), .second, .val (.long q5), .second, .val (.long va), .second, .unset, .unset, .unset, .unset, .unset, .unset, .unset, .unset, .unset, .unset, .unset, .unset, .unset, .unset, .unset] [(.long (q4 >>> ((2 : Int32) &&& 0x3f).toInt64))])) (fun t kt => ?_) ?_
  · show Steps p.tables e below (s₁.setTop (mkF m 4 #[.val (.long q0), .second, .val (.long q1), .second, .val (.long q2), .second, .val (.long q3), .second, .val (.long q4), .second, .val (.long q5), .second, .unset, .unset, .unset, .unset, .unset, .unset, .unset, .unset, .unset, .unset, .unset, .unset, .unset, .unset, .unset, .unset, .unset] [(.long va)])) t
    refine XS.lstore X0.here hx rfl (hb hby at_4) rfl (l' := #[.val (.long q0), .second, .val (.long q1), .second, .val (.long q2), .second, .val (.long q3), .second, .val (.long q4), .second, .val (.long q5), .second, .val (.long va), .second, .unset, .unset, .unset, .unset, .unset, .unset, .unset, .unset, .unset, .unset, .unset, .unset, .unset, .unset, .unset]) rfl ?_
    show Steps p.tables e below (s₁.setTop (mkF m 6 #[.val (.long q0), .second, .val (.long q1), .second, .val (.long q2), .second, .val (.long q3), .second, .val (.long q4), .second, .val (.long q5), .second, .val (.long va), .second, .unset, .unset, .unset, .unset, .unset, .unset, .unset, .unset, .unset, .unset, .unset, .unset, .unset, .unset, .unset] [])) t
    refine XS.lload X0.here hx rfl (hb hby at_6) rfl ?_
    show Steps p.tables e below (s₁.setTop (mkF m 8 #[.val (.long q0), .second, .val (.long q1), .second, .val (.long q2), .second, .val (.long q3), .second, .val (.long q4), .second, .val (.long q5), .second, .val (.long va), .second, .unset, .unset, .unset, .unset, .unset, .unset, .unset, .unset, .unset, .unset, .unset, .unset, .unset, .unset, .unset] [(.long q4)])) t
    refine XS.iconst X0.here hx rfl (hb hby at_8) ?_
    show Steps p.tables e below (s₁.setTop (mkF m 9 #[.val (.long q0), .second, .val (.long q1), .second, .val (.long q2), .second, .val (.long q3), .second, .val (.long q4), .second, .val (.long q5), .second, .val (.long va), .second, .unset, .unset, .unset, .unset, .unset, .unset, .unset, .unset, .unset, .unset, .unset, .unset, .unset, .unset, .unset] [(.int (2 : Int32)), (.long q4)])) t
    refine XS.lshr X0.here hx rfl (hb hby at_9) rfl ?_
    show Steps p.tables e below (s₁.setTop (mkF m 10 #[.val (.long q0), .second, .val (.long q1), .second, .val (.long q2), .second, .val (.long q3), .second, .val (.long q4), .second, .val (.long q5), .second, .val (.long va), .second, .unset, .unset, .unset, .unset, .unset, .unset, .unset, .unset, .unset, .unset, .unset, .unset, .unset, .unset, .unset] [(.long (q4 >>> ((2 : Int32) &&& 0x3f).toInt64))])) t
    exact kt
  obtain ⟨vb, hvb⟩ : ∃ z, z = (q4 >>> ((2 : Int32) &&& 0x3f).toInt64) := ⟨_, rfl⟩
  rw [← hvb]
  refine own_go (T' := s₁) (f' := (mkF m 16 #[.val (.long q0), .second, .val (.long q1), .second, .val (.long q2), .second, .val (.long q3), .second, .val (.long q4), .second, .val (.long q5), .second, .val (.long va), .second, .val (.long vb), .second, .unset, .unset, .unset, .unset, .unset, .unset, .unset, .unset, .unset, .unset, .unset, .unset, .unset] [(.long (q5 >>> ((2 : Int32) &&& 0x3f).toInt64))])) (fun t kt => ?_) ?_
  · show Steps p.tables e below (s₁.setTop (mkF m 10 #[.val (.long q0), .second, .val (.long q1), .second, .val (.long q2), .second, .val (.long q3), .second, .val (.long q4), .second, .val (.long q5), .second, .val (.long va), .second, .unset, .unset, .unset, .unset, .unset, .unset, .unset, .unset, .unset, .unset, .unset, .unset, .unset, .unset, .unset] [(.long vb)])) t
    refine XS.lstore X0.here hx rfl (hb hby at_10) rfl (l' := #[.val (.long q0), .second, .val (.long q1), .second, .val (.long q2), .second, .val (.long q3), .second, .val (.long q4), .second, .val (.long q5), .second, .val (.long va), .second, .val (.long vb), .second, .unset, .unset, .unset, .unset, .unset, .unset, .unset, .unset, .unset, .unset, .unset, .unset, .unset]) rfl ?_
    show Steps p.tables e below (s₁.setTop (mkF m 12 #[.val (.long q0), .second, .val (.long q1), .second, .val (.long q2), .second, .val (.long q3), .second, .val (.long q4), .second, .val (.long q5), .second, .val (.long va), .second, .val (.long vb), .second, .unset, .unset, .unset, .unset, .unset, .unset, .unset, .unset, .unset, .unset, .unset, .unset, .unset] [])) t
    refine XS.lload X0.here hx rfl (hb hby at_12) rfl ?_
    show Steps p.tables e below (s₁.setTop (mkF m 14 #[.val (.long q0), .second, .val (.long q1), .second, .val (.long q2), .second, .val (.long q3), .second, .val (.long q4), .second, .val (.long q5), .second, .val (.long va), .second, .val (.long vb), .second, .unset, .unset, .unset, .unset, .unset, .unset, .unset, .unset, .unset, .unset, .unset, .unset, .unset] [(.long q5)])) t
    refine XS.iconst X0.here hx rfl (hb hby at_14) ?_
    show Steps p.tables e below (s₁.setTop (mkF m 15 #[.val (.long q0), .second, .val (.long q1), .second, .val (.long q2), .second, .val (.long q3), .second, .val (.long q4), .second, .val (.long q5), .second, .val (.long va), .second, .val (.long vb), .second, .unset, .unset, .unset, .unset, .unset, .unset, .unset, .unset, .unset, .unset, .unset, .unset, .unset] [(.int (2 : Int32)), (.long q5)])) t
    refine XS.lshr X0.here hx rfl (hb hby at_15) rfl ?_
    show Steps p.tables e below (s₁.setTop (mkF m 16 #[.val (.long q0), .second, .val (.long q1), .second, .val (.long q2), .second, .val (.long q3), .second, .val (.long q4), .second, .val (.long q5), .second, .val (.long va), .second, .val (.long vb), .second, .unset, .unset, .unset, .unset, .unset, .unset, .unset, .unset, .unset, .unset, .unset, .unset, .unset] [(.long (q5 >>> ((2 : Int32) &&& 0x3f).toInt64))])) t
    exact kt
  obtain ⟨vc, hvc⟩ : ∃ z, z = (q5 >>> ((2 : Int32) &&& 0x3f).toInt64) := ⟨_, rfl⟩
  rw [← hvc]
  refine own_go (T' := s₁) (f' := (mkF m 18 #[.val (.long q0), .second, .val (.long q1), .second, .val (.long q2), .second, .val (.long q3), .second, .val (.long q4), .second, .val (.long q5), .second, .val (.long va), .second, .val (.long vb), .second, .val (.long vc), .second, .unset, .unset, .unset, .unset, .unset, .unset, .unset, .unset, .unset, .unset, .unset] [])) (fun t kt => ?_) ?_
  · show Steps p.tables e below (s₁.setTop (mkF m 16 #[.val (.long q0), .second, .val (.long q1), .second, .val (.long q2), .second, .val (.long q3), .second, .val (.long q4), .second, .val (.long q5), .second, .val (.long va), .second, .val (.long vb), .second, .unset, .unset, .unset, .unset, .unset, .unset, .unset, .unset, .unset, .unset, .unset, .unset, .unset] [(.long vc)])) t
    refine XS.lstore X0.here hx rfl (hb hby at_16) rfl (l' := #[.val (.long q0), .second, .val (.long q1), .second, .val (.long q2), .second, .val (.long q3), .second, .val (.long q4), .second, .val (.long q5), .second, .val (.long va), .second, .val (.long vb), .second, .val (.long vc), .second, .unset, .unset, .unset, .unset, .unset, .unset, .unset, .unset, .unset, .unset, .unset]) rfl ?_
    show Steps p.tables e below (s₁.setTop (mkF m 18 #[.val (.long q0), .second, .val (.long q1), .second, .val (.long q2), .second, .val (.long q3), .second, .val (.long q4), .second, .val (.long q5), .second, .val (.long va), .second, .val (.long vb), .second, .val (.long vc), .second, .unset, .unset, .unset, .unset, .unset, .unset, .unset, .unset, .unset, .unset, .unset] [])) t
    exact kt
  obtain ⟨T1, h1, X1, e1, E1, A1, D1, U1, st1⟩ := newO X0 hx hZ hown (hw _ (List.mem_of_getElem? (i := 0) rfl)) (hw _ (List.mem_of_getElem? (i := 1) rfl)) (hw _ (List.mem_of_getElem? (i := 2) rfl)) e0 (g := (mkF m 18 #[.val (.long q0), .second, .val (.long q1), .second, .val (.long q2), .second, .val (.long q3), .second, .val (.long q4), .second, .val (.long q5), .second, .val (.long va), .second, .val (.long vb), .second, .val (.long vc), .second, .unset, .unset, .unset, .unset, .unset, .unset, .unset, .unset, .unset, .unset, .unset] [])) rfl (hb hby at_18) (by decide) (by decide)
  obtain ⟨b1, y1⟩ : ∃ z, z = h0.size := ⟨_, rfl⟩
  rw [← y1] at A1 D1 U1 st1
  have g_b1 : n0 ≤ b1 := Nat.le_trans Z0 (Nat.le_of_eq y1.symm)
  have sz_b1 : h0.size ≤ b1 := Nat.le_trans K0.1 (Nat.le_of_eq y1.symm)
  have ZE1 : n0 ≤ h1.size := Nat.le_trans Z0 E1.1
  have KKE1 := K0.ext E1
  refine own_go st1 ?_
  have K_b1 := own_K_new U1
  refine own_go (T' := T1) (f' := (mkF m 22 #[.val (.long q0), .second, .val (.long q1), .second, .val (.long q2), .second, .val (.long q3), .second, .val (.long q4), .second, .val (.long q5), .second, .val (.long va), .second, .val (.long vb), .second, .val (.long vc), .second, .unset, .unset, .unset, .unset, .unset, .unset, .unset, .unset, .unset, .unset, .unset] [(.ref b1), (.ref b1)])) (fun t kt => ?_) ?_
  · show Steps p.tables e below (T1.setTop (mkF m 21 #[.val (.long q0), .second, .val (.long q1), .second, .val (.long q2), .second, .val (.long q3), .second, .val (.long q4), .second, .val (.long q5), .second, .val (.long va), .second, .val (.long vb), .second, .val (.long vc), .second, .unset, .unset, .unset, .unset, .unset, .unset, .unset, .unset, .unset, .unset, .unset] [(.ref b1)])) t
    refine XS.dup X1.here hx rfl (hb hby at_21) rfl rfl ?_
    show Steps p.tables e below (T1.setTop (mkF m 22 #[.val (.long q0), .second, .val (.long q1), .second, .val (.long q2), .second, .val (.long q3), .second, .val (.long q4), .second, .val (.long q5), .second, .val (.long va), .second, .val (.long vb), .second, .val (.long vc), .second, .unset, .unset, .unset, .unset, .unset, .unset, .unset, .unset, .unset, .unset, .unset] [(.ref b1), (.ref b1)])) t
    exact kt
  have lt2_b1 := A1.lt
  refine own_callC X1 hx hZ hown e1 rfl (hw _ (List.mem_of_getElem? (i := 3) rfl)) (hw _ (List.mem_of_getElem? (i := 4) rfl)) (hw _ (List.mem_of_getElem? (i := 2) rfl)) (hw _ (List.mem_of_getElem? (i := 5) rfl)) (by decide) (rm1 l Z aw hw b1 h1 n0 ZE1 A1 K_b1 g_b1) (g := (mkF m 22 #[.val (.long q0), .second, .val (.long q1), .second, .val (.long q2), .second, .val (.long q3), .second, .val (.long q4), .second, .val (.long q5), .second, .val (.long va), .second, .val (.long vb), .second, .val (.long vc), .second, .unset, .unset, .unset, .unset, .unset, .unset, .unset, .unset, .unset, .unset, .unset] [(.ref b1), (.ref b1)])) rfl (by rw [hml]; rfl) (argsL := []) (rest := [(.ref b1)]) (lenOf pd_1 rfl) rfl rfl (W := 1) (by show 2 * 0 + _ ≤ _; exact Nat.le_of_eq rfl) (hb hby at_22) (by decide) (by decide) (by decide) (by decide) ?_
  rintro _ T2 L2 X2 ⟨rfl, Nq2, Kq2, Pq2_0, Pq2_1⟩
  have N2 := Fr.app N0 Nq2
  replace A1 := (A1.keep Kq2)
  replace K_b1 := own_K_keep K_b1 Kq2
  have ZKq2 : n0 ≤ T2.heap.size := Nat.le_trans ZE1 Kq2.1
  have KKKq2 := KKE1.trans Kq2 ((allS (Or.inr sz_b1) all0))
  obtain ⟨r2, g_r2, z_r2, F_r2, Ar_r2⟩ := Pq2_1
  have ne_b1_r2 : b1 ≠ r2 := Nat.ne_of_lt (Nat.lt_of_lt_of_le lt2_b1 z_r2)
  have ne_r2_b1 := ne_b1_r2.symm
  have sz_r2 : h0.size ≤ r2 := Nat.le_trans KKE1.1 z_r2
  refine own_go (T' := T2) (f' := (mkF m 32 #[.val (.long q0), .second, .val (.long q1), .second, .val (.long q2), .second, .val (.long q3), .second, .val (.long q4), .second, .val (.long q5), .second, .val (.long va), .second, .val (.long vb), .second, .val (.long vc), .second, .val (.ref b1), .unset, .unset, .unset, .unset, .unset, .unset, .unset, .unset, .unset, .unset] [(.long va), (.long q0), (.ref b1)])) (fun t kt => ?_) ?_
  · show Steps p.tables e below (T2.setTop (mkF m 25 #[.val (.long q0), .second, .val (.long q1), .second, .val (.long q2), .second, .val (.long q3), .second, .val (.long q4), .second, .val (.long q5), .second, .val (.long va), .second, .val (.long vb), .second, .val (.long vc), .second, .unset, .unset, .unset, .unset, .unset, .unset, .unset, .unset, .unset, .unset, .unset] [(.ref b1)])) t
    refine XS.astore X2.here hx rfl (hb hby at_25) rfl rfl (l' := #[.val (.long q0), .second, .val (.long q1), .second, .val (.long q2), .second, .val (.long q3), .second, .val (.long q4), .second, .val (.long q5), .second, .val (.long va), .second, .val (.long vb), .second, .val (.long vc), .second, .val (.ref b1), .unset, .unset, .unset, .unset, .unset, .unset, .unset, .unset, .unset, .unset]) rfl ?_
    show Steps p.tables e below (T2.setTop (mkF m 27 #[.val (.long q0), .second, .val (.long q1), .second, .val (.long q2), .second, .val (.long q3), .second, .val (.long q4), .second, .val (.long q5), .second, .val (.long va), .second, .val (.long vb), .second, .val (.long vc), .second, .val (.ref b1), .unset, .unset, .unset, .unset, .unset, .unset, .unset, .unset, .unset, .unset] [])) t
    refine XS.aload X2.here hx rfl (hb hby at_27) rfl rfl ?_
    show Steps p.tables e below (T2.setTop (mkF m 29 #[.val (.long q0), .second, .val (.long q1), .second, .val (.long q2), .second, .val (.long q3), .second, .val (.long q4), .second, .val (.long q5), .second, .val (.long va), .second, .val (.long vb), .second, .val (.long vc), .second, .val (.ref b1), .unset, .unset, .unset, .unset, .unset, .unset, .unset, .unset, .unset, .unset] [(.ref b1)])) t
    refine XS.lloadN X2.here hx rfl (hb hby at_29) rfl ?_
    show Steps p.tables e below (T2.setTop (mkF m 30 #[.val (.long q0), .second, .val (.long q1), .second, .val (.long q2), .second, .val (.long q3), .second, .val (.long q4), .second, .val (.long q5), .second, .val (.long va), .second, .val (.long vb), .second, .val (.long vc), .second, .val (.ref b1), .unset, .unset, .unset, .unset, .unset, .unset, .unset, .unset, .unset, .unset] [(.long q0), (.ref b1)])) t
    refine XS.lload X2.here hx rfl (hb hby at_30) rfl ?_
    show Steps p.tables e below (T2.setTop (mkF m 32 #[.val (.long q0), .second, .val (.long q1), .second, .val (.long q2), .second, .val (.long q3), .second, .val (.long q4), .second, .val (.long q5), .second, .val (.long va), .second, .val (.long vb), .second, .val (.long vc), .second, .val (.ref b1), .unset, .unset, .unset, .unset, .unset, .unset, .unset, .unset, .unset, .unset] [(.long va), (.long q0), (.ref b1)])) t
    exact kt
  refine own_callV X2 hx hZ hown rfl (hw _ (List.mem_of_getElem? (i := 12) rfl)) (hw _ (List.mem_of_getElem? (i := 13) rfl)) (notFace_of_selects (args := #[]) (mvT hZ (hw _ (List.mem_of_getElem? (i := 15) rfl)))) (hw _ (List.mem_of_getElem? (i := 15) rfl)) (hw _ (List.mem_of_getElem? (i := 14) rfl)) (hw _ (List.mem_of_getElem? (i := 2) rfl)) (hw _ (List.mem_of_getElem? (i := 16) rfl)) (by decide) (rm3 l Z aw hw b1 q0 va r2 (fun _ => (0 : Int64)) 0 T2.heap n0 ZKq2 F_r2 Ar_r2 g_r2 (ne_b1_r2) own_bd0 (by decide) (own_sr hva)) Pq2_0 (g := (mkF m 32 #[.val (.long q0), .second, .val (.long q1), .second, .val (.long q2), .second, .val (.long q3), .second, .val (.long q4), .second, .val (.long q5), .second, .val (.long va), .second, .val (.long vb), .second, .val (.long vc), .second, .val (.ref b1), .unset, .unset, .unset, .unset, .unset, .unset, .unset, .unset, .unset, .unset] [(.long va), (.long q0), (.ref b1)])) rfl (by rw [hml]; rfl) (argsL := [(.long q0), (.long va)]) (rest := []) (lenOf pd_2 rfl) rfl rfl (W := 0) (by show 2 * 0 + _ ≤ _; exact Nat.le_of_eq rfl) (hb hby at_32) (by decide) (by decide) (by decide) (by decide) ?_
  rintro _ T3 L3 X3 ⟨rfl, Nq3, Kq3, Pq3_0⟩
  have N3 := Fr.app N2 Nq3
  replace Pq2_0 := (Pq2_0.keep Kq3)
  replace F_r2 := (F_r2.keep Kq3 (ninS (ne_b1_r2) nin0))
  have ZKq3 : n0 ≤ T3.heap.size := Nat.le_trans ZKq2 Kq3.1
  have KKKq3 := KKKq2.trans Kq3 ((allS (Or.inr sz_r2) all0))
  obtain ⟨f1, hf1⟩ : ∃ z, z = (own_step q0 va (fun _ => (0 : Int64))) := ⟨_, rfl⟩
  rw [← hf1] at Pq3_0
  refine own_go (T' := T3) (f' := (mkF m 40 #[.val (.long q0), .second, .val (.long q1), .second, .val (.long q2), .second, .val (.long q3), .second, .val (.long q4), .second, .val (.long q5), .second, .val (.long va), .second, .val (.long vb), .second, .val (.long vc), .second, .val (.ref b1), .unset, .unset, .unset, .unset, .unset, .unset, .unset, .unset, .unset, .unset] [(.long vb), (.long q1), (.ref b1)])) (fun t kt => ?_) ?_
  · show Steps p.tables e below (T3.setTop (mkF m 35 #[.val (.long q0), .second, .val (.long q1), .second, .val (.long q2), .second, .val (.long q3), .second, .val (.long q4), .second, .val (.long q5), .second, .val (.long va), .second, .val (.long vb), .second, .val (.long vc), .second, .val (.ref b1), .unset, .unset, .unset, .unset, .unset, .unset, .unset, .unset, .unset, .unset] [])) t
    refine XS.aload X3.here hx rfl (hb hby at_35) rfl rfl ?_
    show Steps p.tables e below (T3.setTop (mkF m 37 #[.val (.long q0), .second, .val (.long q1), .second, .val (.long q2), .second, .val (.long q3), .second, .val (.long q4), .second, .val (.long q5), .second, .val (.long va), .second, .val (.long vb), .second, .val (.long vc), .second, .val (.ref b1), .unset, .unset, .unset, .unset, .unset, .unset, .unset, .unset, .unset, .unset] [(.ref b1)])) t
    refine XS.lloadN X3.here hx rfl (hb hby at_37) rfl ?_
    show Steps p.tables e below (T3.setTop (mkF m 38 #[.val (.long q0), .second, .val (.long q1), .second, .val (.long q2), .second, .val (.long q3), .second, .val (.long q4), .second, .val (.long q5), .second, .val (.long va), .second, .val (.long vb), .second, .val (.long vc), .second, .val (.ref b1), .unset, .unset, .unset, .unset, .unset, .unset, .unset, .unset, .unset, .unset] [(.long q1), (.ref b1)])) t
    refine XS.lload X3.here hx rfl (hb hby at_38) rfl ?_
    show Steps p.tables e below (T3.setTop (mkF m 40 #[.val (.long q0), .second, .val (.long q1), .second, .val (.long q2), .second, .val (.long q3), .second, .val (.long q4), .second, .val (.long q5), .second, .val (.long va), .second, .val (.long vb), .second, .val (.long vc), .second, .val (.ref b1), .unset, .unset, .unset, .unset, .unset, .unset, .unset, .unset, .unset, .unset] [(.long vb), (.long q1), (.ref b1)])) t
    exact kt
  refine own_callV X3 hx hZ hown rfl (hw _ (List.mem_of_getElem? (i := 12) rfl)) (hw _ (List.mem_of_getElem? (i := 13) rfl)) (notFace_of_selects (args := #[]) (mvT hZ (hw _ (List.mem_of_getElem? (i := 15) rfl)))) (hw _ (List.mem_of_getElem? (i := 15) rfl)) (hw _ (List.mem_of_getElem? (i := 14) rfl)) (hw _ (List.mem_of_getElem? (i := 2) rfl)) (hw _ (List.mem_of_getElem? (i := 16) rfl)) (by decide) (rm3 l Z aw hw b1 q1 vb r2 f1 2305843009213693952 T3.heap n0 ZKq3 F_r2 Pq3_0 g_r2 (ne_b1_r2) (by rw [hf1]; exact own_bd1 (M := 0) own_bd0 (by decide) (own_sr hva)) (by decide) (own_sr hvb)) Pq2_0 (g := (mkF m 40 #[.val (.long q0), .second, .val (.long q1), .second, .val (.long q2), .second, .val (.long q3), .second, .val (.long q4), .second, .val (.long q5), .second, .val (.long va), .second, .val (.long vb), .second, .val (.long vc), .second, .val (.ref b1), .unset, .unset, .unset, .unset, .unset, .unset, .unset, .unset, .unset, .unset] [(.long vb), (.long q1), (.ref b1)])) rfl (by rw [hml]; rfl) (argsL := [(.long q1), (.long vb)]) (rest := []) (lenOf pd_2 rfl) rfl rfl (W := 0) (by show 2 * 0 + _ ≤ _; exact Nat.le_of_eq rfl) (hb hby at_40) (by decide) (by decide) (by decide) (by decide) ?_
  rintro _ T4 L4 X4 ⟨rfl, Nq4, Kq4, Pq4_0⟩
  have N4 := Fr.app N3 Nq4
  replace Pq2_0 := (Pq2_0.keep Kq4)
  replace F_r2 := (F_r2.keep Kq4 (ninS (ne_b1_r2) nin0))
  have ZKq4 : n0 ≤ T4.heap.size := Nat.le_trans ZKq3 Kq4.1
  have KKKq4 := KKKq3.trans Kq4 ((allS (Or.inr sz_r2) all0))
  obtain ⟨f2, hf2⟩ : ∃ z, z = (own_step q1 vb f1) := ⟨_, rfl⟩
  rw [← hf2] at Pq4_0
  refine own_go (T' := T4) (f' := (mkF m 49 #[.val (.long q0), .second, .val (.long q1), .second, .val (.long q2), .second, .val (.long q3), .second, .val (.long q4), .second, .val (.long q5), .second, .val (.long va), .second, .val (.long vb), .second, .val (.long vc), .second, .val (.ref b1), .unset, .unset, .unset, .unset, .unset, .unset, .unset, .unset, .unset, .unset] [(.long vc), (.long q2), (.ref b1)])) (fun t kt => ?_) ?_
  · show Steps p.tables e below (T4.setTop (mkF m 43 #[.val (.long q0), .second, .val (.long q1), .second, .val (.long q2), .second, .val (.long q3), .second, .val (.long q4), .second, .val (.long q5), .second, .val (.long va), .second, .val (.long vb), .second, .val (.long vc), .second, .val (.ref b1), .unset, .unset, .unset, .unset, .unset, .unset, .unset, .unset, .unset, .unset] [])) t
    refine XS.aload X4.here hx rfl (hb hby at_43) rfl rfl ?_
    show Steps p.tables e below (T4.setTop (mkF m 45 #[.val (.long q0), .second, .val (.long q1), .second, .val (.long q2), .second, .val (.long q3), .second, .val (.long q4), .second, .val (.long q5), .second, .val (.long va), .second, .val (.long vb), .second, .val (.long vc), .second, .val (.ref b1), .unset, .unset, .unset, .unset, .unset, .unset, .unset, .unset, .unset, .unset] [(.ref b1)])) t
    refine XS.lload X4.here hx rfl (hb hby at_45) rfl ?_
    show Steps p.tables e below (T4.setTop (mkF m 47 #[.val (.long q0), .second, .val (.long q1), .second, .val (.long q2), .second, .val (.long q3), .second, .val (.long q4), .second, .val (.long q5), .second, .val (.long va), .second, .val (.long vb), .second, .val (.long vc), .second, .val (.ref b1), .unset, .unset, .unset, .unset, .unset, .unset, .unset, .unset, .unset, .unset] [(.long q2), (.ref b1)])) t
    refine XS.lload X4.here hx rfl (hb hby at_47) rfl ?_
    show Steps p.tables e below (T4.setTop (mkF m 49 #[.val (.long q0), .second, .val (.long q1), .second, .val (.long q2), .second, .val (.long q3), .second, .val (.long q4), .second, .val (.long q5), .second, .val (.long va), .second, .val (.long vb), .second, .val (.long vc), .second, .val (.ref b1), .unset, .unset, .unset, .unset, .unset, .unset, .unset, .unset, .unset, .unset] [(.long vc), (.long q2), (.ref b1)])) t
    exact kt
  refine own_callV X4 hx hZ hown rfl (hw _ (List.mem_of_getElem? (i := 12) rfl)) (hw _ (List.mem_of_getElem? (i := 13) rfl)) (notFace_of_selects (args := #[]) (mvT hZ (hw _ (List.mem_of_getElem? (i := 15) rfl)))) (hw _ (List.mem_of_getElem? (i := 15) rfl)) (hw _ (List.mem_of_getElem? (i := 14) rfl)) (hw _ (List.mem_of_getElem? (i := 2) rfl)) (hw _ (List.mem_of_getElem? (i := 16) rfl)) (by decide) (rm3 l Z aw hw b1 q2 vc r2 f2 4611686018427387904 T4.heap n0 ZKq4 F_r2 Pq4_0 g_r2 (ne_b1_r2) (by rw [hf2, hf1]; exact own_bd1 (M := 2305843009213693952) (own_bd1 (M := 0) own_bd0 (by decide) (own_sr hva)) (by decide) (own_sr hvb)) (by decide) (own_sr hvc)) Pq2_0 (g := (mkF m 49 #[.val (.long q0), .second, .val (.long q1), .second, .val (.long q2), .second, .val (.long q3), .second, .val (.long q4), .second, .val (.long q5), .second, .val (.long va), .second, .val (.long vb), .second, .val (.long vc), .second, .val (.ref b1), .unset, .unset, .unset, .unset, .unset, .unset, .unset, .unset, .unset, .unset] [(.long vc), (.long q2), (.ref b1)])) rfl (by rw [hml]; rfl) (argsL := [(.long q2), (.long vc)]) (rest := []) (lenOf pd_2 rfl) rfl rfl (W := 0) (by show 2 * 0 + _ ≤ _; exact Nat.le_of_eq rfl) (hb hby at_49) (by decide) (by decide) (by decide) (by decide) ?_
  rintro _ T5 L5 X5 ⟨rfl, Nq5, Kq5, Pq5_0⟩
  have N5 := Fr.app N4 Nq5
  replace Pq2_0 := (Pq2_0.keep Kq5)
  replace F_r2 := (F_r2.keep Kq5 (ninS (ne_b1_r2) nin0))
  have ZKq5 : n0 ≤ T5.heap.size := Nat.le_trans ZKq4 Kq5.1
  have KKKq5 := KKKq4.trans Kq5 ((allS (Or.inr sz_r2) all0))
  obtain ⟨f3, hf3⟩ : ∃ z, z = (own_step q2 vc f2) := ⟨_, rfl⟩
  rw [← hf3] at Pq5_0
  refine own_go (T' := T5) (f' := (mkF m 54 #[.val (.long q0), .second, .val (.long q1), .second, .val (.long q2), .second, .val (.long q3), .second, .val (.long q4), .second, .val (.long q5), .second, .val (.long va), .second, .val (.long vb), .second, .val (.long vc), .second, .val (.ref b1), .unset, .unset, .unset, .unset, .unset, .unset, .unset, .unset, .unset, .unset] [(.ref b1)])) (fun t kt => ?_) ?_
  · show Steps p.tables e below (T5.setTop (mkF m 52 #[.val (.long q0), .second, .val (.long q1), .second, .val (.long q2), .second, .val (.long q3), .second, .val (.long q4), .second, .val (.long q5), .second, .val (.long va), .second, .val (.long vb), .second, .val (.long vc), .second, .val (.ref b1), .unset, .unset, .unset, .unset, .unset, .unset, .unset, .unset, .unset, .unset] [])) t
    refine XS.aload X5.here hx rfl (hb hby at_52) rfl rfl ?_
    show Steps p.tables e below (T5.setTop (mkF m 54 #[.val (.long q0), .second, .val (.long q1), .second, .val (.long q2), .second, .val (.long q3), .second, .val (.long q4), .second, .val (.long q5), .second, .val (.long va), .second, .val (.long vb), .second, .val (.long vc), .second, .val (.ref b1), .unset, .unset, .unset, .unset, .unset, .unset, .unset, .unset, .unset, .unset] [(.ref b1)])) t
    exact kt
  refine own_callVp X5 hx hZ hown rfl (hw _ (List.mem_of_getElem? (i := 24) rfl)) (hw _ (List.mem_of_getElem? (i := 25) rfl)) (notFace_of_selects (args := #[]) (mvT hZ (hw _ (List.mem_of_getElem? (i := 27) rfl)))) (hw _ (List.mem_of_getElem? (i := 27) rfl)) (hw _ (List.mem_of_getElem? (i := 26) rfl)) (hw _ (List.mem_of_getElem? (i := 2) rfl)) (hw _ (List.mem_of_getElem? (i := 28) rfl)) (by decide) (rm6 l Z aw hw b1 r2 f3 T5.heap n0 ZKq5 F_r2 Pq5_0) Pq2_0 (g := (mkF m 54 #[.val (.long q0), .second, .val (.long q1), .second, .val (.long q2), .second, .val (.long q3), .second, .val (.long q4), .second, .val (.long q5), .second, .val (.long va), .second, .val (.long vb), .second, .val (.long vc), .second, .val (.ref b1), .unset, .unset, .unset, .unset, .unset, .unset, .unset, .unset, .unset, .unset] [(.ref b1)])) rfl (by rw [hml]; rfl) (argsL := []) (rest := []) (lenOf pd_3 rfl) rfl rfl (W := 0) (by show 2 * 0 + _ ≤ _; exact Nat.le_of_eq rfl) (hb hby at_54) (by decide) (by decide) (by decide) (by decide) ?_
  intro T6 X6 e6
  refine own_go (T' := T6) (f' := (mkF m 64 #[.val (.long q0), .second, .val (.long q1), .second, .val (.long q2), .second, .val (.long q3), .second, .val (.long q4), .second, .val (.long q5), .second, .val (.long va), .second, .val (.long vb), .second, .val (.long vc), .second, .val (.ref b1), .val (.long (own_fp 64 f3)), .second, .unset, .unset, .unset, .unset, .unset, .unset, .unset, .unset] [(.long (q0 ^^^ (-1 : Int64)))])) (fun t kt => ?_) ?_
  · show Steps p.tables e below (T6.setTop (mkF m 57 #[.val (.long q0), .second, .val (.long q1), .second, .val (.long q2), .second, .val (.long q3), .second, .val (.long q4), .second, .val (.long q5), .second, .val (.long va), .second, .val (.long vb), .second, .val (.long vc), .second, .val (.ref b1), .unset, .unset, .unset, .unset, .unset, .unset, .unset, .unset, .unset, .unset] [(.long (own_fp 64 f3))])) t
    refine XS.lstore X6.here hx rfl (hb hby at_57) rfl (l' := #[.val (.long q0), .second, .val (.long q1), .second, .val (.long q2), .second, .val (.long q3), .second, .val (.long q4), .second, .val (.long q5), .second, .val (.long va), .second, .val (.long vb), .second, .val (.long vc), .second, .val (.ref b1), .val (.long (own_fp 64 f3)), .second, .unset, .unset, .unset, .unset, .unset, .unset, .unset, .unset]) rfl ?_
    show Steps p.tables e below (T6.setTop (mkF m 59 #[.val (.long q0), .second, .val (.long q1), .second, .val (.long q2), .second, .val (.long q3), .second, .val (.long q4), .second, .val (.long q5), .second, .val (.long va), .second, .val (.long vb), .second, .val (.long vc), .second, .val (.ref b1), .val (.long (own_fp 64 f3)), .second, .unset, .unset, .unset, .unset, .unset, .unset, .unset, .unset] [])) t
    refine XS.lloadN X6.here hx rfl (hb hby at_59) rfl ?_
    show Steps p.tables e below (T6.setTop (mkF m 60 #[.val (.long q0), .second, .val (.long q1), .second, .val (.long q2), .second, .val (.long q3), .second, .val (.long q4), .second, .val (.long q5), .second, .val (.long va), .second, .val (.long vb), .second, .val (.long vc), .second, .val (.ref b1), .val (.long (own_fp 64 f3)), .second, .unset, .unset, .unset, .unset, .unset, .unset, .unset, .unset] [(.long q0)])) t
    refine X6.ldc2Long hx hown (mvT hZ (hw _ (List.mem_of_getElem? (i := 29) rfl))) (g := (mkF m 60 #[.val (.long q0), .second, .val (.long q1), .second, .val (.long q2), .second, .val (.long q3), .second, .val (.long q4), .second, .val (.long q5), .second, .val (.long va), .second, .val (.long vb), .second, .val (.long vc), .second, .val (.ref b1), .val (.long (own_fp 64 f3)), .second, .unset, .unset, .unset, .unset, .unset, .unset, .unset, .unset] [(.long q0)])) rfl (hb hby at_60) _ ?_
    show Steps p.tables e below (T6.setTop (mkF m 63 #[.val (.long q0), .second, .val (.long q1), .second, .val (.long q2), .second, .val (.long q3), .second, .val (.long q4), .second, .val (.long q5), .second, .val (.long va), .second, .val (.long vb), .second, .val (.long vc), .second, .val (.ref b1), .val (.long (own_fp 64 f3)), .second, .unset, .unset, .unset, .unset, .unset, .unset, .unset, .unset] [(.long (-1 : Int64)), (.long q0)])) t
    refine XS.lxor X6.here hx rfl (hb hby at_63) rfl ?_
    show Steps p.tables e below (T6.setTop (mkF m 64 #[.val (.long q0), .second, .val (.long q1), .second, .val (.long q2), .second, .val (.long q3), .second, .val (.long q4), .second, .val (.long q5), .second, .val (.long va), .second, .val (.long vb), .second, .val (.long vc), .second, .val (.ref b1), .val (.long (own_fp 64 f3)), .second, .unset, .unset, .unset, .unset, .unset, .unset, .unset, .unset] [(.long (q0 ^^^ (-1 : Int64)))])) t
    exact kt
  obtain ⟨k1, hk1⟩ : ∃ z, z = (q0 ^^^ (-1 : Int64)) := ⟨_, rfl⟩
  rw [← hk1]
  refine own_go (T' := T6) (f' := (mkF m 71 #[.val (.long q0), .second, .val (.long q1), .second, .val (.long q2), .second, .val (.long q3), .second, .val (.long q4), .second, .val (.long q5), .second, .val (.long va), .second, .val (.long vb), .second, .val (.long vc), .second, .val (.ref b1), .val (.long (own_fp 64 f3)), .second, .val (.long k1), .second, .unset, .unset, .unset, .unset, .unset, .unset] [(.long (q1 ^^^ (-1 : Int64)))])) (fun t kt => ?_) ?_
  · show Steps p.tables e below (T6.setTop (mkF m 64 #[.val (.long q0), .second, .val (.long q1), .second, .val (.long q2), .second, .val (.long q3), .second, .val (.long q4), .second, .val (.long q5), .second, .val (.long va), .second, .val (.long vb), .second, .val (.long vc), .second, .val (.ref b1), .val (.long (own_fp 64 f3)), .second, .unset, .unset, .unset, .unset, .unset, .unset, .unset, .unset] [(.long k1)])) t
    refine XS.lstore X6.here hx rfl (hb hby at_64) rfl (l' := #[.val (.long q0), .second, .val (.long q1), .second, .val (.long q2), .second, .val (.long q3), .second, .val (.long q4), .second, .val (.long q5), .second, .val (.long va), .second, .val (.long vb), .second, .val (.long vc), .second, .val (.ref b1), .val (.long (own_fp 64 f3)), .second, .val (.long k1), .second, .unset, .unset, .unset, .unset, .unset, .unset]) rfl ?_
    show Steps p.tables e below (T6.setTop (mkF m 66 #[.val (.long q0), .second, .val (.long q1), .second, .val (.long q2), .second, .val (.long q3), .second, .val (.long q4), .second, .val (.long q5), .second, .val (.long va), .second, .val (.long vb), .second, .val (.long vc), .second, .val (.ref b1), .val (.long (own_fp 64 f3)), .second, .val (.long k1), .second, .unset, .unset, .unset, .unset, .unset, .unset] [])) t
    refine XS.lloadN X6.here hx rfl (hb hby at_66) rfl ?_
    show Steps p.tables e below (T6.setTop (mkF m 67 #[.val (.long q0), .second, .val (.long q1), .second, .val (.long q2), .second, .val (.long q3), .second, .val (.long q4), .second, .val (.long q5), .second, .val (.long va), .second, .val (.long vb), .second, .val (.long vc), .second, .val (.ref b1), .val (.long (own_fp 64 f3)), .second, .val (.long k1), .second, .unset, .unset, .unset, .unset, .unset, .unset] [(.long q1)])) t
    refine X6.ldc2Long hx hown (mvT hZ (hw _ (List.mem_of_getElem? (i := 29) rfl))) (g := (mkF m 67 #[.val (.long q0), .second, .val (.long q1), .second, .val (.long q2), .second, .val (.long q3), .second, .val (.long q4), .second, .val (.long q5), .second, .val (.long va), .second, .val (.long vb), .second, .val (.long vc), .second, .val (.ref b1), .val (.long (own_fp 64 f3)), .second, .val (.long k1), .second, .unset, .unset, .unset, .unset, .unset, .unset] [(.long q1)])) rfl (hb hby at_67) _ ?_
    show Steps p.tables e below (T6.setTop (mkF m 70 #[.val (.long q0), .second, .val (.long q1), .second, .val (.long q2), .second, .val (.long q3), .second, .val (.long q4), .second, .val (.long q5), .second, .val (.long va), .second, .val (.long vb), .second, .val (.long vc), .second, .val (.ref b1), .val (.long (own_fp 64 f3)), .second, .val (.long k1), .second, .unset, .unset, .unset, .unset, .unset, .unset] [(.long (-1 : Int64)), (.long q1)])) t
    refine XS.lxor X6.here hx rfl (hb hby at_70) rfl ?_
    show Steps p.tables e below (T6.setTop (mkF m 71 #[.val (.long q0), .second, .val (.long q1), .second, .val (.long q2), .second, .val (.long q3), .second, .val (.long q4), .second, .val (.long q5), .second, .val (.long va), .second, .val (.long vb), .second, .val (.long vc), .second, .val (.ref b1), .val (.long (own_fp 64 f3)), .second, .val (.long k1), .second, .unset, .unset, .unset, .unset, .unset, .unset] [(.long (q1 ^^^ (-1 : Int64)))])) t
    exact kt
  obtain ⟨k2, hk2⟩ : ∃ z, z = (q1 ^^^ (-1 : Int64)) := ⟨_, rfl⟩
  rw [← hk2]
  refine own_go (T' := T6) (f' := (mkF m 79 #[.val (.long q0), .second, .val (.long q1), .second, .val (.long q2), .second, .val (.long q3), .second, .val (.long q4), .second, .val (.long q5), .second, .val (.long va), .second, .val (.long vb), .second, .val (.long vc), .second, .val (.ref b1), .val (.long (own_fp 64 f3)), .second, .val (.long k1), .second, .val (.long k2), .second, .unset, .unset, .unset, .unset] [(.long (q2 ^^^ (-1 : Int64)))])) (fun t kt => ?_) ?_
  · show Steps p.tables e below (T6.setTop (mkF m 71 #[.val (.long q0), .second, .val (.long q1), .second, .val (.long q2), .second, .val (.long q3), .second, .val (.long q4), .second, .val (.long q5), .second, .val (.long va), .second, .val (.long vb), .second, .val (.long vc), .second, .val (.ref b1), .val (.long (own_fp 64 f3)), .second, .val (.long k1), .second, .unset, .unset, .unset, .unset, .unset, .unset] [(.long k2)])) t
    refine XS.lstore X6.here hx rfl (hb hby at_71) rfl (l' := #[.val (.long q0), .second, .val (.long q1), .second, .val (.long q2), .second, .val (.long q3), .second, .val (.long q4), .second, .val (.long q5), .second, .val (.long va), .second, .val (.long vb), .second, .val (.long vc), .second, .val (.ref b1), .val (.long (own_fp 64 f3)), .second, .val (.long k1), .second, .val (.long k2), .second, .unset, .unset, .unset, .unset]) rfl ?_
    show Steps p.tables e below (T6.setTop (mkF m 73 #[.val (.long q0), .second, .val (.long q1), .second, .val (.long q2), .second, .val (.long q3), .second, .val (.long q4), .second, .val (.long q5), .second, .val (.long va), .second, .val (.long vb), .second, .val (.long vc), .second, .val (.ref b1), .val (.long (own_fp 64 f3)), .second, .val (.long k1), .second, .val (.long k2), .second, .unset, .unset, .unset, .unset] [])) t
    refine XS.lload X6.here hx rfl (hb hby at_73) rfl ?_
    show Steps p.tables e below (T6.setTop (mkF m 75 #[.val (.long q0), .second, .val (.long q1), .second, .val (.long q2), .second, .val (.long q3), .second, .val (.long q4), .second, .val (.long q5), .second, .val (.long va), .second, .val (.long vb), .second, .val (.long vc), .second, .val (.ref b1), .val (.long (own_fp 64 f3)), .second, .val (.long k1), .second, .val (.long k2), .second, .unset, .unset, .unset, .unset] [(.long q2)])) t
    refine X6.ldc2Long hx hown (mvT hZ (hw _ (List.mem_of_getElem? (i := 29) rfl))) (g := (mkF m 75 #[.val (.long q0), .second, .val (.long q1), .second, .val (.long q2), .second, .val (.long q3), .second, .val (.long q4), .second, .val (.long q5), .second, .val (.long va), .second, .val (.long vb), .second, .val (.long vc), .second, .val (.ref b1), .val (.long (own_fp 64 f3)), .second, .val (.long k1), .second, .val (.long k2), .second, .unset, .unset, .unset, .unset] [(.long q2)])) rfl (hb hby at_75) _ ?_
    show Steps p.tables e below (T6.setTop (mkF m 78 #[.val (.long q0), .second, .val (.long q1), .second, .val (.long q2), .second, .val (.long q3), .second, .val (.long q4), .second, .val (.long q5), .second, .val (.long va), .second, .val (.long vb), .second, .val (.long vc), .second, .val (.ref b1), .val (.long (own_fp 64 f3)), .second, .val (.long k1), .second, .val (.long k2), .second, .unset, .unset, .unset, .unset] [(.long (-1 : Int64)), (.long q2)])) t
    refine XS.lxor X6.here hx rfl (hb hby at_78) rfl ?_
    show Steps p.tables e below (T6.setTop (mkF m 79 #[.val (.long q0), .second, .val (.long q1), .second, .val (.long q2), .second, .val (.long q3), .second, .val (.long q4), .second, .val (.long q5), .second, .val (.long va), .second, .val (.long vb), .second, .val (.long vc), .second, .val (.ref b1), .val (.long (own_fp 64 f3)), .second, .val (.long k1), .second, .val (.long k2), .second, .unset, .unset, .unset, .unset] [(.long (q2 ^^^ (-1 : Int64)))])) t
    exact kt
  obtain ⟨k3, hk3⟩ : ∃ z, z = (q2 ^^^ (-1 : Int64)) := ⟨_, rfl⟩
  rw [← hk3]
  refine own_go (T' := T6) (f' := (mkF m 91 #[.val (.long q0), .second, .val (.long q1), .second, .val (.long q2), .second, .val (.long q3), .second, .val (.long q4), .second, .val (.long q5), .second, .val (.long va), .second, .val (.long vb), .second, .val (.long vc), .second, .val (.ref b1), .val (.long (own_fp 64 f3)), .second, .val (.long k1), .second, .val (.long k2), .second, .val (.long k3), .second, .unset, .unset] [(.int (lcmpW ((va + vb) + vc) (0 : Int64)))])) (fun t kt => ?_) ?_
  · show Steps p.tables e below (T6.setTop (mkF m 79 #[.val (.long q0), .second, .val (.long q1), .second, .val (.long q2), .second, .val (.long q3), .second, .val (.long q4), .second, .val (.long q5), .second, .val (.long va), .second, .val (.long vb), .second, .val (.long vc), .second, .val (.ref b1), .val (.long (own_fp 64 f3)), .second, .val (.long k1), .second, .val (.long k2), .second, .unset, .unset, .unset, .unset] [(.long k3)])) t
    refine XS.lstore X6.here hx rfl (hb hby at_79) rfl (l' := #[.val (.long q0), .second, .val (.long q1), .second, .val (.long q2), .second, .val (.long q3), .second, .val (.long q4), .second, .val (.long q5), .second, .val (.long va), .second, .val (.long vb), .second, .val (.long vc), .second, .val (.ref b1), .val (.long (own_fp 64 f3)), .second, .val (.long k1), .second, .val (.long k2), .second, .val (.long k3), .second, .unset, .unset]) rfl ?_
    show Steps p.tables e below (T6.setTop (mkF m 81 #[.val (.long q0), .second, .val (.long q1), .second, .val (.long q2), .second, .val (.long q3), .second, .val (.long q4), .second, .val (.long q5), .second, .val (.long va), .second, .val (.long vb), .second, .val (.long vc), .second, .val (.ref b1), .val (.long (own_fp 64 f3)), .second, .val (.long k1), .second, .val (.long k2), .second, .val (.long k3), .second, .unset, .unset] [])) t
    refine XS.lload X6.here hx rfl (hb hby at_81) rfl ?_
    show Steps p.tables e below (T6.setTop (mkF m 83 #[.val (.long q0), .second, .val (.long q1), .second, .val (.long q2), .second, .val (.long q3), .second, .val (.long q4), .second, .val (.long q5), .second, .val (.long va), .second, .val (.long vb), .second, .val (.long vc), .second, .val (.ref b1), .val (.long (own_fp 64 f3)), .second, .val (.long k1), .second, .val (.long k2), .second, .val (.long k3), .second, .unset, .unset] [(.long va)])) t
    refine XS.lload X6.here hx rfl (hb hby at_83) rfl ?_
    show Steps p.tables e below (T6.setTop (mkF m 85 #[.val (.long q0), .second, .val (.long q1), .second, .val (.long q2), .second, .val (.long q3), .second, .val (.long q4), .second, .val (.long q5), .second, .val (.long va), .second, .val (.long vb), .second, .val (.long vc), .second, .val (.ref b1), .val (.long (own_fp 64 f3)), .second, .val (.long k1), .second, .val (.long k2), .second, .val (.long k3), .second, .unset, .unset] [(.long vb), (.long va)])) t
    refine XS.ladd X6.here hx rfl (hb hby at_85) rfl ?_
    show Steps p.tables e below (T6.setTop (mkF m 86 #[.val (.long q0), .second, .val (.long q1), .second, .val (.long q2), .second, .val (.long q3), .second, .val (.long q4), .second, .val (.long q5), .second, .val (.long va), .second, .val (.long vb), .second, .val (.long vc), .second, .val (.ref b1), .val (.long (own_fp 64 f3)), .second, .val (.long k1), .second, .val (.long k2), .second, .val (.long k3), .second, .unset, .unset] [(.long (va + vb))])) t
    refine XS.lload X6.here hx rfl (hb hby at_86) rfl ?_
    show Steps p.tables e below (T6.setTop (mkF m 88 #[.val (.long q0), .second, .val (.long q1), .second, .val (.long q2), .second, .val (.long q3), .second, .val (.long q4), .second, .val (.long q5), .second, .val (.long va), .second, .val (.long vb), .second, .val (.long vc), .second, .val (.ref b1), .val (.long (own_fp 64 f3)), .second, .val (.long k1), .second, .val (.long k2), .second, .val (.long k3), .second, .unset, .unset] [(.long vc), (.long (va + vb))])) t
    refine XS.ladd X6.here hx rfl (hb hby at_88) rfl ?_
    show Steps p.tables e below (T6.setTop (mkF m 89 #[.val (.long q0), .second, .val (.long q1), .second, .val (.long q2), .second, .val (.long q3), .second, .val (.long q4), .second, .val (.long q5), .second, .val (.long va), .second, .val (.long vb), .second, .val (.long vc), .second, .val (.ref b1), .val (.long (own_fp 64 f3)), .second, .val (.long k1), .second, .val (.long k2), .second, .val (.long k3), .second, .unset, .unset] [(.long ((va + vb) + vc))])) t
    refine XS.lconst X6.here hx rfl (hb hby at_89) ?_
    show Steps p.tables e below (T6.setTop (mkF m 90 #[.val (.long q0), .second, .val (.long q1), .second, .val (.long q2), .second, .val (.long q3), .second, .val (.long q4), .second, .val (.long q5), .second, .val (.long va), .second, .val (.long vb), .second, .val (.long vc), .second, .val (.ref b1), .val (.long (own_fp 64 f3)), .second, .val (.long k1), .second, .val (.long k2), .second, .val (.long k3), .second, .unset, .unset] [(.long (0 : Int64)), (.long ((va + vb) + vc))])) t
    refine XS.lcmp X6.here hx rfl (hb hby at_90) rfl ?_
    show Steps p.tables e below (T6.setTop (mkF m 91 #[.val (.long q0), .second, .val (.long q1), .second, .val (.long q2), .second, .val (.long q3), .second, .val (.long q4), .second, .val (.long q5), .second, .val (.long va), .second, .val (.long vb), .second, .val (.long vc), .second, .val (.ref b1), .val (.long (own_fp 64 f3)), .second, .val (.long k1), .second, .val (.long k2), .second, .val (.long k3), .second, .unset, .unset] [(.int (lcmpW ((va + vb) + vc) (0 : Int64)))])) t
    exact kt
  refine own_go (T' := T6) (f' := (mkF m 99 #[.val (.long q0), .second, .val (.long q1), .second, .val (.long q2), .second, .val (.long q3), .second, .val (.long q4), .second, .val (.long q5), .second, .val (.long va), .second, .val (.long vb), .second, .val (.long vc), .second, .val (.ref b1), .val (.long (own_fp 64 f3)), .second, .val (.long k1), .second, .val (.long k2), .second, .val (.long k3), .second, .unset, .unset] [(.int (own_z ((0 : Int64) < ((va + vb) + vc))))])) (fun t kt => ?_) ?_
  · by_cases hc91_7 : (0 : Int64) < ((va + vb) + vc)
    · show Steps p.tables e below (T6.setTop (mkF m 91 #[.val (.long q0), .second, .val (.long q1), .second, .val (.long q2), .second, .val (.long q3), .second, .val (.long q4), .second, .val (.long q5), .second, .val (.long va), .second, .val (.long vb), .second, .val (.long vc), .second, .val (.ref b1), .val (.long (own_fp 64 f3)), .second, .val (.long k1), .second, .val (.long k2), .second, .val (.long k3), .second, .unset, .unset] [(.int (lcmpW ((va + vb) + vc) (0 : Int64)))])) t
      refine XS.ifNo X6.here hx rfl (hb hby at_91) rfl (own_lN_le hc91_7) ?_
      show Steps p.tables e below (T6.setTop (mkF m 94 #[.val (.long q0), .second, .val (.long q1), .second, .val (.long q2), .second, .val (.long q3), .second, .val (.long q4), .second, .val (.long q5), .second, .val (.long va), .second, .val (.long vb), .second, .val (.long vc), .second, .val (.ref b1), .val (.long (own_fp 64 f3)), .second, .val (.long k1), .second, .val (.long k2), .second, .val (.long k3), .second, .unset, .unset] [])) t
      refine XS.iconst X6.here hx rfl (hb hby at_94) ?_
      show Steps p.tables e below (T6.setTop (mkF m 95 #[.val (.long q0), .second, .val (.long q1), .second, .val (.long q2), .second, .val (.long q3), .second, .val (.long q4), .second, .val (.long q5), .second, .val (.long va), .second, .val (.long vb), .second, .val (.long vc), .second, .val (.ref b1), .val (.long (own_fp 64 f3)), .second, .val (.long k1), .second, .val (.long k2), .second, .val (.long k3), .second, .unset, .unset] [(.int (1 : Int32))])) t
      refine XS.goto X6.here hx rfl (pc0 := 95) (pc' := 99) rfl (hb hby at_95) (by decide) (by decide) ?_
      show Steps p.tables e below (T6.setTop (mkF m 99 #[.val (.long q0), .second, .val (.long q1), .second, .val (.long q2), .second, .val (.long q3), .second, .val (.long q4), .second, .val (.long q5), .second, .val (.long va), .second, .val (.long vb), .second, .val (.long vc), .second, .val (.ref b1), .val (.long (own_fp 64 f3)), .second, .val (.long k1), .second, .val (.long k2), .second, .val (.long k3), .second, .unset, .unset] [(.int (1 : Int32))])) t
      rw [own_z_t hc91_7] at kt
      exact kt
    · show Steps p.tables e below (T6.setTop (mkF m 91 #[.val (.long q0), .second, .val (.long q1), .second, .val (.long q2), .second, .val (.long q3), .second, .val (.long q4), .second, .val (.long q5), .second, .val (.long va), .second, .val (.long vb), .second, .val (.long vc), .second, .val (.ref b1), .val (.long (own_fp 64 f3)), .second, .val (.long k1), .second, .val (.long k2), .second, .val (.long k3), .second, .unset, .unset] [(.int (lcmpW ((va + vb) + vc) (0 : Int64)))])) t
      refine XS.ifYes X6.here hx rfl (pc0 := 91) (pc' := 98) rfl (hb hby at_91) rfl (own_lY_le hc91_7) (by decide) (by decide) ?_
      show Steps p.tables e below (T6.setTop (mkF m 98 #[.val (.long q0), .second, .val (.long q1), .second, .val (.long q2), .second, .val (.long q3), .second, .val (.long q4), .second, .val (.long q5), .second, .val (.long va), .second, .val (.long vb), .second, .val (.long vc), .second, .val (.ref b1), .val (.long (own_fp 64 f3)), .second, .val (.long k1), .second, .val (.long k2), .second, .val (.long k3), .second, .unset, .unset] [])) t
      refine XS.iconst X6.here hx rfl (hb hby at_98) ?_
      show Steps p.tables e below (T6.setTop (mkF m 99 #[.val (.long q0), .second, .val (.long q1), .second, .val (.long q2), .second, .val (.long q3), .second, .val (.long q4), .second, .val (.long q5), .second, .val (.long va), .second, .val (.long vb), .second, .val (.long vc), .second, .val (.ref b1), .val (.long (own_fp 64 f3)), .second, .val (.long k1), .second, .val (.long k2), .second, .val (.long k3), .second, .unset, .unset] [(.int (0 : Int32))])) t
      rw [own_z_f hc91_7] at kt
      exact kt
  refine own_go (T' := T6) (f' := (mkF m 105 #[.val (.long q0), .second, .val (.long q1), .second, .val (.long q2), .second, .val (.long q3), .second, .val (.long q4), .second, .val (.long q5), .second, .val (.long va), .second, .val (.long vb), .second, .val (.long vc), .second, .val (.ref b1), .val (.long (own_fp 64 f3)), .second, .val (.long k1), .second, .val (.long k2), .second, .val (.long k3), .second, .unset, .unset] [(.long ((q0 &&& q1) &&& q2)), (.int (own_z ((0 : Int64) < ((va + vb) + vc))))])) (fun t kt => ?_) ?_
  · show Steps p.tables e below (T6.setTop (mkF m 99 #[.val (.long q0), .second, .val (.long q1), .second, .val (.long q2), .second, .val (.long q3), .second, .val (.long q4), .second, .val (.long q5), .second, .val (.long va), .second, .val (.long vb), .second, .val (.long vc), .second, .val (.ref b1), .val (.long (own_fp 64 f3)), .second, .val (.long k1), .second, .val (.long k2), .second, .val (.long k3), .second, .unset, .unset] [(.int (own_z ((0 : Int64) < ((va + vb) + vc))))])) t
    refine XS.lloadN X6.here hx rfl (hb hby at_99) rfl ?_
    show Steps p.tables e below (T6.setTop (mkF m 100 #[.val (.long q0), .second, .val (.long q1), .second, .val (.long q2), .second, .val (.long q3), .second, .val (.long q4), .second, .val (.long q5), .second, .val (.long va), .second, .val (.long vb), .second, .val (.long vc), .second, .val (.ref b1), .val (.long (own_fp 64 f3)), .second, .val (.long k1), .second, .val (.long k2), .second, .val (.long k3), .second, .unset, .unset] [(.long q0), (.int (own_z ((0 : Int64) < ((va + vb) + vc))))])) t
    refine XS.lloadN X6.here hx rfl (hb hby at_100) rfl ?_
    show Steps p.tables e below (T6.setTop (mkF m 101 #[.val (.long q0), .second, .val (.long q1), .second, .val (.long q2), .second, .val (.long q3), .second, .val (.long q4), .second, .val (.long q5), .second, .val (.long va), .second, .val (.long vb), .second, .val (.long vc), .second, .val (.ref b1), .val (.long (own_fp 64 f3)), .second, .val (.long k1), .second, .val (.long k2), .second, .val (.long k3), .second, .unset, .unset] [(.long q1), (.long q0), (.int (own_z ((0 : Int64) < ((va + vb) + vc))))])) t
    refine XS.land X6.here hx rfl (hb hby at_101) rfl ?_
    show Steps p.tables e below (T6.setTop (mkF m 102 #[.val (.long q0), .second, .val (.long q1), .second, .val (.long q2), .second, .val (.long q3), .second, .val (.long q4), .second, .val (.long q5), .second, .val (.long va), .second, .val (.long vb), .second, .val (.long vc), .second, .val (.ref b1), .val (.long (own_fp 64 f3)), .second, .val (.long k1), .second, .val (.long k2), .second, .val (.long k3), .second, .unset, .unset] [(.long (q0 &&& q1)), (.int (own_z ((0 : Int64) < ((va + vb) + vc))))])) t
    refine XS.lload X6.here hx rfl (hb hby at_102) rfl ?_
    show Steps p.tables e below (T6.setTop (mkF m 104 #[.val (.long q0), .second, .val (.long q1), .second, .val (.long q2), .second, .val (.long q3), .second, .val (.long q4), .second, .val (.long q5), .second, .val (.long va), .second, .val (.long vb), .second, .val (.long vc), .second, .val (.ref b1), .val (.long (own_fp 64 f3)), .second, .val (.long k1), .second, .val (.long k2), .second, .val (.long k3), .second, .unset, .unset] [(.long q2), (.long (q0 &&& q1)), (.int (own_z ((0 : Int64) < ((va + vb) + vc))))])) t
    refine XS.land X6.here hx rfl (hb hby at_104) rfl ?_
    show Steps p.tables e below (T6.setTop (mkF m 105 #[.val (.long q0), .second, .val (.long q1), .second, .val (.long q2), .second, .val (.long q3), .second, .val (.long q4), .second, .val (.long q5), .second, .val (.long va), .second, .val (.long vb), .second, .val (.long vc), .second, .val (.ref b1), .val (.long (own_fp 64 f3)), .second, .val (.long k1), .second, .val (.long k2), .second, .val (.long k3), .second, .unset, .unset] [(.long ((q0 &&& q1) &&& q2)), (.int (own_z ((0 : Int64) < ((va + vb) + vc))))])) t
    exact kt
  refine own_callSp X6 hx hZ hown e6 (hw _ (List.mem_of_getElem? (i := 30) rfl)) (hw _ (List.mem_of_getElem? (i := 31) rfl)) (hw _ (List.mem_of_getElem? (i := 32) rfl)) (hw _ (List.mem_of_getElem? (i := 33) rfl)) (by decide) (rm7 l Z aw hw (own_z ((0 : Int64) < ((va + vb) + vc))) ((q0 &&& q1) &&& q2) T5.heap n0 ZKq5) (g := (mkF m 105 #[.val (.long q0), .second, .val (.long q1), .second, .val (.long q2), .second, .val (.long q3), .second, .val (.long q4), .second, .val (.long q5), .second, .val (.long va), .second, .val (.long vb), .second, .val (.long vc), .second, .val (.ref b1), .val (.long (own_fp 64 f3)), .second, .val (.long k1), .second, .val (.long k2), .second, .val (.long k3), .second, .unset, .unset] [(.long ((q0 &&& q1) &&& q2)), (.int (own_z ((0 : Int64) < ((va + vb) + vc))))])) rfl (by rw [hml]; rfl) (argsL := [(.int (own_z ((0 : Int64) < ((va + vb) + vc)))), (.long ((q0 &&& q1) &&& q2))]) (rest := []) (lenOf pd_4 rfl) rfl rfl (W := 0) (by show 2 * 0 + _ ≤ _; exact Nat.le_of_eq rfl) (hb hby at_105) (by decide) (by decide) (by decide) (by decide) ?_
  intro T8 X8 e8
  refine own_go (T' := T8) (f' := (mkF m 118 #[.val (.long q0), .second, .val (.long q1), .second, .val (.long q2), .second, .val (.long q3), .second, .val (.long q4), .second, .val (.long q5), .second, .val (.long va), .second, .val (.long vb), .second, .val (.long vc), .second, .val (.ref b1), .val (.long (own_fp 64 f3)), .second, .val (.long k1), .second, .val (.long k2), .second, .val (.long k3), .second, .unset, .unset] [(.int (lcmpW ((va + vb) - vc) (0 : Int64))), (.long (own_kp (own_z ((0 : Int64) < ((va + vb) + vc))) ((q0 &&& q1) &&& q2)))])) (fun t kt => ?_) ?_
  · show Steps p.tables e below (T8.setTop (mkF m 108 #[.val (.long q0), .second, .val (.long q1), .second, .val (.long q2), .second, .val (.long q3), .second, .val (.long q4), .second, .val (.long q5), .second, .val (.long va), .second, .val (.long vb), .second, .val (.long vc), .second, .val (.ref b1), .val (.long (own_fp 64 f3)), .second, .val (.long k1), .second, .val (.long k2), .second, .val (.long k3), .second, .unset, .unset] [(.long (own_kp (own_z ((0 : Int64) < ((va + vb) + vc))) ((q0 &&& q1) &&& q2)))])) t
    refine XS.lload X8.here hx rfl (hb hby at_108) rfl ?_
    show Steps p.tables e below (T8.setTop (mkF m 110 #[.val (.long q0), .second, .val (.long q1), .second, .val (.long q2), .second, .val (.long q3), .second, .val (.long q4), .second, .val (.long q5), .second, .val (.long va), .second, .val (.long vb), .second, .val (.long vc), .second, .val (.ref b1), .val (.long (own_fp 64 f3)), .second, .val (.long k1), .second, .val (.long k2), .second, .val (.long k3), .second, .unset, .unset] [(.long va), (.long (own_kp (own_z ((0 : Int64) < ((va + vb) + vc))) ((q0 &&& q1) &&& q2)))])) t
    refine XS.lload X8.here hx rfl (hb hby at_110) rfl ?_
    show Steps p.tables e below (T8.setTop (mkF m 112 #[.val (.long q0), .second, .val (.long q1), .second, .val (.long q2), .second, .val (.long q3), .second, .val (.long q4), .second, .val (.long q5), .second, .val (.long va), .second, .val (.long vb), .second, .val (.long vc), .second, .val (.ref b1), .val (.long (own_fp 64 f3)), .second, .val (.long k1), .second, .val (.long k2), .second, .val (.long k3), .second, .unset, .unset] [(.long vb), (.long va), (.long (own_kp (own_z ((0 : Int64) < ((va + vb) + vc))) ((q0 &&& q1) &&& q2)))])) t
    refine XS.ladd X8.here hx rfl (hb hby at_112) rfl ?_
    show Steps p.tables e below (T8.setTop (mkF m 113 #[.val (.long q0), .second, .val (.long q1), .second, .val (.long q2), .second, .val (.long q3), .second, .val (.long q4), .second, .val (.long q5), .second, .val (.long va), .second, .val (.long vb), .second, .val (.long vc), .second, .val (.ref b1), .val (.long (own_fp 64 f3)), .second, .val (.long k1), .second, .val (.long k2), .second, .val (.long k3), .second, .unset, .unset] [(.long (va + vb)), (.long (own_kp (own_z ((0 : Int64) < ((va + vb) + vc))) ((q0 &&& q1) &&& q2)))])) t
    refine XS.lload X8.here hx rfl (hb hby at_113) rfl ?_
    show Steps p.tables e below (T8.setTop (mkF m 115 #[.val (.long q0), .second, .val (.long q1), .second, .val (.long q2), .second, .val (.long q3), .second, .val (.long q4), .second, .val (.long q5), .second, .val (.long va), .second, .val (.long vb), .second, .val (.long vc), .second, .val (.ref b1), .val (.long (own_fp 64 f3)), .second, .val (.long k1), .second, .val (.long k2), .second, .val (.long k3), .second, .unset, .unset] [(.long vc), (.long (va + vb)), (.long (own_kp (own_z ((0 : Int64) < ((va + vb) + vc))) ((q0 &&& q1) &&& q2)))])) t
    refine XS.lsub X8.here hx rfl (hb hby at_115) rfl ?_
    show Steps p.tables e below (T8.setTop (mkF m 116 #[.val (.long q0), .second, .val (.long q1), .second, .val (.long q2), .second, .val (.long q3), .second, .val (.long q4), .second, .val (.long q5), .second, .val (.long va), .second, .val (.long vb), .second, .val (.long vc), .second, .val (.ref b1), .val (.long (own_fp 64 f3)), .second, .val (.long k1), .second, .val (.long k2), .second, .val (.long k3), .second, .unset, .unset] [(.long ((va + vb) - vc)), (.long (own_kp (own_z ((0 : Int64) < ((va + vb) + vc))) ((q0 &&& q1) &&& q2)))])) t
    refine XS.lconst X8.here hx rfl (hb hby at_116) ?_
    show Steps p.tables e below (T8.setTop (mkF m 117 #[.val (.long q0), .second, .val (.long q1), .second, .val (.long q2), .second, .val (.long q3), .second, .val (.long q4), .second, .val (.long q5), .second, .val (.long va), .second, .val (.long vb), .second, .val (.long vc), .second, .val (.ref b1), .val (.long (own_fp 64 f3)), .second, .val (.long k1), .second, .val (.long k2), .second, .val (.long k3), .second, .unset, .unset] [(.long (0 : Int64)), (.long ((va + vb) - vc)), (.long (own_kp (own_z ((0 : Int64) < ((va + vb) + vc))) ((q0 &&& q1) &&& q2)))])) t
    refine XS.lcmp X8.here hx rfl (hb hby at_117) rfl ?_
    show Steps p.tables e below (T8.setTop (mkF m 118 #[.val (.long q0), .second, .val (.long q1), .second, .val (.long q2), .second, .val (.long q3), .second, .val (.long q4), .second, .val (.long q5), .second, .val (.long va), .second, .val (.long vb), .second, .val (.long vc), .second, .val (.ref b1), .val (.long (own_fp 64 f3)), .second, .val (.long k1), .second, .val (.long k2), .second, .val (.long k3), .second, .unset, .unset] [(.int (lcmpW ((va + vb) - vc) (0 : Int64))), (.long (own_kp (own_z ((0 : Int64) < ((va + vb) + vc))) ((q0 &&& q1) &&& q2)))])) t
    exact kt
  refine own_go (T' := T8) (f' := (mkF m 126 #[.val (.long q0), .second, .val (.long q1), .second, .val (.long q2), .second, .val (.long q3), .second, .val (.long q4), .second, .val (.long q5), .second, .val (.long va), .second, .val (.long vb), .second, .val (.long vc), .second, .val (.ref b1), .val (.long (own_fp 64 f3)), .second, .val (.long k1), .second, .val (.long k2), .second, .val (.long k3), .second, .unset, .unset] [(.int (own_z ((0 : Int64) < ((va + vb) - vc)))), (.long (own_kp (own_z ((0 : Int64) < ((va + vb) + vc))) ((q0 &&& q1) &&& q2)))])) (fun t kt => ?_) ?_
  · by_cases hc118_9 : (0 : Int64) < ((va + vb) - vc)
    · show Steps p.tables e below (T8.setTop (mkF m 118 #[.val (.long q0), .second, .val (.long q1), .second, .val (.long q2), .second, .val (.long q3), .second, .val (.long q4), .second, .val (.long q5), .second, .val (.long va), .second, .val (.long vb), .second, .val (.long vc), .second, .val (.ref b1), .val (.long (own_fp 64 f3)), .second, .val (.long k1), .second, .val (.long k2), .second, .val (.long k3), .second, .unset, .unset] [(.int (lcmpW ((va + vb) - vc) (0 : Int64))), (.long (own_kp (own_z ((0 : Int64) < ((va + vb) + vc))) ((q0 &&& q1) &&& q2)))])) t
      refine XS.ifNo X8.here hx rfl (hb hby at_118) rfl (own_lN_le hc118_9) ?_
      show Steps p.tables e below (T8.setTop (mkF m 121 #[.val (.long q0), .second, .val (.long q1), .second, .val (.long q2), .second, .val (.long q3), .second, .val (.long q4), .second, .val (.long q5), .second, .val (.long va), .second, .val (.long vb), .second, .val (.long vc), .second, .val (.ref b1), .val (.long (own_fp 64 f3)), .second, .val (.long k1), .second, .val (.long k2), .second, .val (.long k3), .second, .unset, .unset] [(.long (own_kp (own_z ((0 : Int64) < ((va + vb) + vc))) ((q0 &&& q1) &&& q2)))])) t
      refine XS.iconst X8.here hx rfl (hb hby at_121) ?_
      show Steps p.tables e below (T8.setTop (mkF m 122 #[.val (.long q0), .second, .val (.long q1), .second, .val (.long q2), .second, .val (.long q3), .second, .val (.long q4), .second, .val (.long q5), .second, .val (.long va), .second, .val (.long vb), .second, .val (.long vc), .second, .val (.ref b1), .val (.long (own_fp 64 f3)), .second, .val (.long k1), .second, .val (.long k2), .second, .val (.long k3), .second, .unset, .unset] [(.int (1 : Int32)), (.long (own_kp (own_z ((0 : Int64) < ((va + vb) + vc))) ((q0 &&& q1) &&& q2)))])) t
      refine XS.goto X8.here hx rfl (pc0 := 122) (pc' := 126) rfl (hb hby at_122) (by decide) (by decide) ?_
      show Steps p.tables e below (T8.setTop (mkF m 126 #[.val (.long q0), .second, .val (.long q1), .second, .val (.long q2), .second, .val (.long q3), .second, .val (.long q4), .second, .val (.long q5), .second, .val (.long va), .second, .val (.long vb), .second, .val (.long vc), .second, .val (.ref b1), .val (.long (own_fp 64 f3)), .second, .val (.long k1), .second, .val (.long k2), .second, .val (.long k3), .second, .unset, .unset] [(.int (1 : Int32)), (.long (own_kp (own_z ((0 : Int64) < ((va + vb) + vc))) ((q0 &&& q1) &&& q2)))])) t
      rw [own_z_t hc118_9] at kt
      exact kt
    · show Steps p.tables e below (T8.setTop (mkF m 118 #[.val (.long q0), .second, .val (.long q1), .second, .val (.long q2), .second, .val (.long q3), .second, .val (.long q4), .second, .val (.long q5), .second, .val (.long va), .second, .val (.long vb), .second, .val (.long vc), .second, .val (.ref b1), .val (.long (own_fp 64 f3)), .second, .val (.long k1), .second, .val (.long k2), .second, .val (.long k3), .second, .unset, .unset] [(.int (lcmpW ((va + vb) - vc) (0 : Int64))), (.long (own_kp (own_z ((0 : Int64) < ((va + vb) + vc))) ((q0 &&& q1) &&& q2)))])) t
      refine XS.ifYes X8.here hx rfl (pc0 := 118) (pc' := 125) rfl (hb hby at_118) rfl (own_lY_le hc118_9) (by decide) (by decide) ?_
      show Steps p.tables e below (T8.setTop (mkF m 125 #[.val (.long q0), .second, .val (.long q1), .second, .val (.long q2), .second, .val (.long q3), .second, .val (.long q4), .second, .val (.long q5), .second, .val (.long va), .second, .val (.long vb), .second, .val (.long vc), .second, .val (.ref b1), .val (.long (own_fp 64 f3)), .second, .val (.long k1), .second, .val (.long k2), .second, .val (.long k3), .second, .unset, .unset] [(.long (own_kp (own_z ((0 : Int64) < ((va + vb) + vc))) ((q0 &&& q1) &&& q2)))])) t
      refine XS.iconst X8.here hx rfl (hb hby at_125) ?_
      show Steps p.tables e below (T8.setTop (mkF m 126 #[.val (.long q0), .second, .val (.long q1), .second, .val (.long q2), .second, .val (.long q3), .second, .val (.long q4), .second, .val (.long q5), .second, .val (.long va), .second, .val (.long vb), .second, .val (.long vc), .second, .val (.ref b1), .val (.long (own_fp 64 f3)), .second, .val (.long k1), .second, .val (.long k2), .second, .val (.long k3), .second, .unset, .unset] [(.int (0 : Int32)), (.long (own_kp (own_z ((0 : Int64) < ((va + vb) + vc))) ((q0 &&& q1) &&& q2)))])) t
      rw [own_z_f hc118_9] at kt
      exact kt
  refine own_go (T' := T8) (f' := (mkF m 132 #[.val (.long q0), .second, .val (.long q1), .second, .val (.long q2), .second, .val (.long q3), .second, .val (.long q4), .second, .val (.long q5), .second, .val (.long va), .second, .val (.long vb), .second, .val (.long vc), .second, .val (.ref b1), .val (.long (own_fp 64 f3)), .second, .val (.long k1), .second, .val (.long k2), .second, .val (.long k3), .second, .unset, .unset] [(.long ((q0 &&& q1) &&& k3)), (.int (own_z ((0 : Int64) < ((va + vb) - vc)))), (.long (own_kp (own_z ((0 : Int64) < ((va + vb) + vc))) ((q0 &&& q1) &&& q2)))])) (fun t kt => ?_) ?_
  · show Steps p.tables e below (T8.setTop (mkF m 126 #[.val (.long q0), .second, .val (.long q1), .second, .val (.long q2), .second, .val (.long q3), .second, .val (.long q4), .second, .val (.long q5), .second, .val (.long va), .second, .val (.long vb), .second, .val (.long vc), .second, .val (.ref b1), .val (.long (own_fp 64 f3)), .second, .val (.long k1), .second, .val (.long k2), .second, .val (.long k3), .second, .unset, .unset] [(.int (own_z ((0 : Int64) < ((va + vb) - vc)))), (.long (own_kp (own_z ((0 : Int64) < ((va + vb) + vc))) ((q0 &&& q1) &&& q2)))])) t
    refine XS.lloadN X8.here hx rfl (hb hby at_126) rfl ?_
    show Steps p.tables e below (T8.setTop (mkF m 127 #[.val (.long q0), .second, .val (.long q1), .second, .val (.long q2), .second, .val (.long q3), .second, .val (.long q4), .second, .val (.long q5), .second, .val (.long va), .second, .val (.long vb), .second, .val (.long vc), .second, .val (.ref b1), .val (.long (own_fp 64 f3)), .second, .val (.long k1), .second, .val (.long k2), .second, .val (.long k3), .second, .unset, .unset] [(.long q0), (.int (own_z ((0 : Int64) < ((va + vb) - vc)))), (.long (own_kp (own_z ((0 : Int64) < ((va + vb) + vc))) ((q0 &&& q1) &&& q2)))])) t
    refine XS.lloadN X8.here hx rfl (hb hby at_127) rfl ?_
    show Steps p.tables e below (T8.setTop (mkF m 128 #[.val (.long q0), .second, .val (.long q1), .second, .val (.long q2), .second, .val (.long q3), .second, .val (.long q4), .second, .val (.long q5), .second, .val (.long va), .second, .val (.long vb), .second, .val (.long vc), .second, .val (.ref b1), .val (.long (own_fp 64 f3)), .second, .val (.long k1), .second, .val (.long k2), .second, .val (.long k3), .second, .unset, .unset] [(.long q1), (.long q0), (.int (own_z ((0 : Int64) < ((va + vb) - vc)))), (.long (own_kp (own_z ((0 : Int64) < ((va + vb) + vc))) ((q0 &&& q1) &&& q2)))])) t
    refine XS.land X8.here hx rfl (hb hby at_128) rfl ?_
    show Steps p.tables e below (T8.setTop (mkF m 129 #[.val (.long q0), .second, .val (.long q1), .second, .val (.long q2), .second, .val (.long q3), .second, .val (.long q4), .second, .val (.long q5), .second, .val (.long va), .second, .val (.long vb), .second, .val (.long vc), .second, .val (.ref b1), .val (.long (own_fp 64 f3)), .second, .val (.long k1), .second, .val (.long k2), .second, .val (.long k3), .second, .unset, .unset] [(.long (q0 &&& q1)), (.int (own_z ((0 : Int64) < ((va + vb) - vc)))), (.long (own_kp (own_z ((0 : Int64) < ((va + vb) + vc))) ((q0 &&& q1) &&& q2)))])) t
    refine XS.lload X8.here hx rfl (hb hby at_129) rfl ?_
    show Steps p.tables e below (T8.setTop (mkF m 131 #[.val (.long q0), .second, .val (.long q1), .second, .val (.long q2), .second, .val (.long q3), .second, .val (.long q4), .second, .val (.long q5), .second, .val (.long va), .second, .val (.long vb), .second, .val (.long vc), .second, .val (.ref b1), .val (.long (own_fp 64 f3)), .second, .val (.long k1), .second, .val (.long k2), .second, .val (.long k3), .second, .unset, .unset] [(.long k3), (.long (q0 &&& q1)), (.int (own_z ((0 : Int64) < ((va + vb) - vc)))), (.long (own_kp (own_z ((0 : Int64) < ((va + vb) + vc))) ((q0 &&& q1) &&& q2)))])) t
    refine XS.land X8.here hx rfl (hb hby at_131) rfl ?_
    show Steps p.tables e below (T8.setTop (mkF m 132 #[.val (.long q0), .second, .val (.long q1), .second, .val (.long q2), .second, .val (.long q3), .second, .val (.long q4), .second, .val (.long q5), .second, .val (.long va), .second, .val (.long vb), .second, .val (.long vc), .second, .val (.ref b1), .val (.long (own_fp 64 f3)), .second, .val (.long k1), .second, .val (.long k2), .second, .val (.long k3), .second, .unset, .unset] [(.long ((q0 &&& q1) &&& k3)), (.int (own_z ((0 : Int64) < ((va + vb) - vc)))), (.long (own_kp (own_z ((0 : Int64) < ((va + vb) + vc))) ((q0 &&& q1) &&& q2)))])) t
    exact kt
  refine own_callSp X8 hx hZ hown e8 (hw _ (List.mem_of_getElem? (i := 30) rfl)) (hw _ (List.mem_of_getElem? (i := 31) rfl)) (hw _ (List.mem_of_getElem? (i := 32) rfl)) (hw _ (List.mem_of_getElem? (i := 33) rfl)) (by decide) (rm7 l Z aw hw (own_z ((0 : Int64) < ((va + vb) - vc))) ((q0 &&& q1) &&& k3) T5.heap n0 ZKq5) (g := (mkF m 132 #[.val (.long q0), .second, .val (.long q1), .second, .val (.long q2), .second, .val (.long q3), .second, .val (.long q4), .second, .val (.long q5), .second, .val (.long va), .second, .val (.long vb), .second, .val (.long vc), .second, .val (.ref b1), .val (.long (own_fp 64 f3)), .second, .val (.long k1), .second, .val (.long k2), .second, .val (.long k3), .second, .unset, .unset] [(.long ((q0 &&& q1) &&& k3)), (.int (own_z ((0 : Int64) < ((va + vb) - vc)))), (.long (own_kp (own_z ((0 : Int64) < ((va + vb) + vc))) ((q0 &&& q1) &&& q2)))])) rfl (by rw [hml]; rfl) (argsL := [(.int (own_z ((0 : Int64) < ((va + vb) - vc)))), (.long ((q0 &&& q1) &&& k3))]) (rest := [(.long (own_kp (own_z ((0 : Int64) < ((va + vb) + vc))) ((q0 &&& q1) &&& q2)))]) (lenOf pd_4 rfl) rfl rfl (W := 2) (by show 2 * 0 + _ ≤ _; exact Nat.le_of_eq rfl) (hb hby at_132) (by decide) (by decide) (by decide) (by decide) ?_
  intro T10 X10 e10
  refine own_go (T' := T10) (f' := (mkF m 146 #[.val (.long q0), .second, .val (.long q1), .second, .val (.long q2), .second, .val (.long q3), .second, .val (.long q4), .second, .val (.long q5), .second, .val (.long va), .second, .val (.long vb), .second, .val (.long vc), .second, .val (.ref b1), .val (.long (own_fp 64 f3)), .second, .val (.long k1), .second, .val (.long k2), .second, .val (.long k3), .second, .unset, .unset] [(.int (lcmpW ((va - vb) + vc) (0 : Int64))), (.long ((own_kp (own_z ((0 : Int64) < ((va + vb) + vc))) ((q0 &&& q1) &&& q2)) ||| (own_kp (own_z ((0 : Int64) < ((va + vb) - vc))) ((q0 &&& q1) &&& k3))))])) (fun t kt => ?_) ?_
  · show Steps p.tables e below (T10.setTop (mkF m 135 #[.val (.long q0), .second, .val (.long q1), .second, .val (.long q2), .second, .val (.long q3), .second, .val (.long q4), .second, .val (.long q5), .second, .val (.long va), .second, .val (.long vb), .second, .val (.long vc), .second, .val (.ref b1), .val (.long (own_fp 64 f3)), .second, .val (.long k1), .second, .val (.long k2), .second, .val (.long k3), .second, .unset, .unset] [(.long (own_kp (own_z ((0 : Int64) < ((va + vb) - vc))) ((q0 &&& q1) &&& k3))), (.long (own_kp (own_z ((0 : Int64) < ((va + vb) + vc))) ((q0 &&& q1) &&& q2)))])) t
    refine XS.lor X10.here hx rfl (hb hby at_135) rfl ?_
    show Steps p.tables e below (T10.setTop (mkF m 136 #[.val (.long q0), .second, .val (.long q1), .second, .val (.long q2), .second, .val (.long q3), .second, .val (.long q4), .second, .val (.long q5), .second, .val (.long va), .second, .val (.long vb), .second, .val (.long vc), .second, .val (.ref b1), .val (.long (own_fp 64 f3)), .second, .val (.long k1), .second, .val (.long k2), .second, .val (.long k3), .second, .unset, .unset] [(.long ((own_kp (own_z ((0 : Int64) < ((va + vb) + vc))) ((q0 &&& q1) &&& q2)) ||| (own_kp (own_z ((0 : Int64) < ((va + vb) - vc))) ((q0 &&& q1) &&& k3))))])) t
    refine XS.lload X10.here hx rfl (hb hby at_136) rfl ?_
    show Steps p.tables e below (T10.setTop (mkF m 138 #[.val (.long q0), .second, .val (.long q1), .second, .val (.long q2), .second, .val (.long q3), .second, .val (.long q4), .second, .val (.long q5), .second, .val (.long va), .second, .val (.long vb), .second, .val (.long vc), .second, .val (.ref b1), .val (.long (own_fp 64 f3)), .second, .val (.long k1), .second, .val (.long k2), .second, .val (.long k3), .second, .unset, .unset] [(.long va), (.long ((own_kp (own_z ((0 : Int64) < ((va + vb) + vc))) ((q0 &&& q1) &&& q2)) ||| (own_kp (own_z ((0 : Int64) < ((va + vb) - vc))) ((q0 &&& q1) &&& k3))))])) t
    refine XS.lload X10.here hx rfl (hb hby at_138) rfl ?_
    show Steps p.tables e below (T10.setTop (mkF m 140 #[.val (.long q0), .second, .val (.long q1), .second, .val (.long q2), .second, .val (.long q3), .second, .val (.long q4), .second, .val (.long q5), .second, .val (.long va), .second, .val (.long vb), .second, .val (.long vc), .second, .val (.ref b1), .val (.long (own_fp 64 f3)), .second, .val (.long k1), .second, .val (.long k2), .second, .val (.long k3), .second, .unset, .unset] [(.long vb), (.long va), (.long ((own_kp (own_z ((0 : Int64) < ((va + vb) + vc))) ((q0 &&& q1) &&& q2)) ||| (own_kp (own_z ((0 : Int64) < ((va + vb) - vc))) ((q0 &&& q1) &&& k3))))])) t
    refine XS.lsub X10.here hx rfl (hb hby at_140) rfl ?_
    show Steps p.tables e below (T10.setTop (mkF m 141 #[.val (.long q0), .second, .val (.long q1), .second, .val (.long q2), .second, .val (.long q3), .second, .val (.long q4), .second, .val (.long q5), .second, .val (.long va), .second, .val (.long vb), .second, .val (.long vc), .second, .val (.ref b1), .val (.long (own_fp 64 f3)), .second, .val (.long k1), .second, .val (.long k2), .second, .val (.long k3), .second, .unset, .unset] [(.long (va - vb)), (.long ((own_kp (own_z ((0 : Int64) < ((va + vb) + vc))) ((q0 &&& q1) &&& q2)) ||| (own_kp (own_z ((0 : Int64) < ((va + vb) - vc))) ((q0 &&& q1) &&& k3))))])) t
    refine XS.lload X10.here hx rfl (hb hby at_141) rfl ?_
    show Steps p.tables e below (T10.setTop (mkF m 143 #[.val (.long q0), .second, .val (.long q1), .second, .val (.long q2), .second, .val (.long q3), .second, .val (.long q4), .second, .val (.long q5), .second, .val (.long va), .second, .val (.long vb), .second, .val (.long vc), .second, .val (.ref b1), .val (.long (own_fp 64 f3)), .second, .val (.long k1), .second, .val (.long k2), .second, .val (.long k3), .second, .unset, .unset] [(.long vc), (.long (va - vb)), (.long ((own_kp (own_z ((0 : Int64) < ((va + vb) + vc))) ((q0 &&& q1) &&& q2)) ||| (own_kp (own_z ((0 : Int64) < ((va + vb) - vc))) ((q0 &&& q1) &&& k3))))])) t
    refine XS.ladd X10.here hx rfl (hb hby at_143) rfl ?_
    show Steps p.tables e below (T10.setTop (mkF m 144 #[.val (.long q0), .second, .val (.long q1), .second, .val (.long q2), .second, .val (.long q3), .second, .val (.long q4), .second, .val (.long q5), .second, .val (.long va), .second, .val (.long vb), .second, .val (.long vc), .second, .val (.ref b1), .val (.long (own_fp 64 f3)), .second, .val (.long k1), .second, .val (.long k2), .second, .val (.long k3), .second, .unset, .unset] [(.long ((va - vb) + vc)), (.long ((own_kp (own_z ((0 : Int64) < ((va + vb) + vc))) ((q0 &&& q1) &&& q2)) ||| (own_kp (own_z ((0 : Int64) < ((va + vb) - vc))) ((q0 &&& q1) &&& k3))))])) t
    refine XS.lconst X10.here hx rfl (hb hby at_144) ?_
    show Steps p.tables e below (T10.setTop (mkF m 145 #[.val (.long q0), .second, .val (.long q1), .second, .val (.long q2), .second, .val (.long q3), .second, .val (.long q4), .second, .val (.long q5), .second, .val (.long va), .second, .val (.long vb), .second, .val (.long vc), .second, .val (.ref b1), .val (.long (own_fp 64 f3)), .second, .val (.long k1), .second, .val (.long k2), .second, .val (.long k3), .second, .unset, .unset] [(.long (0 : Int64)), (.long ((va - vb) + vc)), (.long ((own_kp (own_z ((0 : Int64) < ((va + vb) + vc))) ((q0 &&& q1) &&& q2)) ||| (own_kp (own_z ((0 : Int64) < ((va + vb) - vc))) ((q0 &&& q1) &&& k3))))])) t
    refine XS.lcmp X10.here hx rfl (hb hby at_145) rfl ?_
    show Steps p.tables e below (T10.setTop (mkF m 146 #[.val (.long q0), .second, .val (.long q1), .second, .val (.long q2), .second, .val (.long q3), .second, .val (.long q4), .second, .val (.long q5), .second, .val (.long va), .second, .val (.long vb), .second, .val (.long vc), .second, .val (.ref b1), .val (.long (own_fp 64 f3)), .second, .val (.long k1), .second, .val (.long k2), .second, .val (.long k3), .second, .unset, .unset] [(.int (lcmpW ((va - vb) + vc) (0 : Int64))), (.long ((own_kp (own_z ((0 : Int64) < ((va + vb) + vc))) ((q0 &&& q1) &&& q2)) ||| (own_kp (own_z ((0 : Int64) < ((va + vb) - vc))) ((q0 &&& q1) &&& k3))))])) t
    exact kt
  refine own_go (T' := T10) (f' := (mkF m 154 #[.val (.long q0), .second, .val (.long q1), .second, .val (.long q2), .second, .val (.long q3), .second, .val (.long q4), .second, .val (.long q5), .second, .val (.long va), .second, .val (.long vb), .second, .val (.long vc), .second, .val (.ref b1), .val (.long (own_fp 64 f3)), .second, .val (.long k1), .second, .val (.long k2), .second, .val (.long k3), .second, .unset, .unset] [(.int (own_z ((0 : Int64) < ((va - vb) + vc)))), (.long ((own_kp (own_z ((0 : Int64) < ((va + vb) + vc))) ((q0 &&& q1) &&& q2)) ||| (own_kp (own_z ((0 : Int64) < ((va + vb) - vc))) ((q0 &&& q1) &&& k3))))])) (fun t kt => ?_) ?_
  · by_cases hc146_11 : (0 : Int64) < ((va - vb) + vc)
    · show Steps p.tables e below (T10.setTop (mkF m 146 #[.val (.long q0), .second, .val (.long q1), .second, .val (.long q2), .second, .val (.long q3), .second, .val (.long q4), .second, .val (.long q5), .second, .val (.long va), .second, .val (.long vb), .second, .val (.long vc), .second, .val (.ref b1), .val (.long (own_fp 64 f3)), .second, .val (.long k1), .second, .val (.long k2), .second, .val (.long k3), .second, .unset, .unset] [(.int (lcmpW ((va - vb) + vc) (0 : Int64))), (.long ((own_kp (own_z ((0 : Int64) < ((va + vb) + vc))) ((q0 &&& q1) &&& q2)) ||| (own_kp (own_z ((0 : Int64) < ((va + vb) - vc))) ((q0 &&& q1) &&& k3))))])) t
      refine XS.ifNo X10.here hx rfl (hb hby at_146) rfl (own_lN_le hc146_11) ?_
      show Steps p.tables e below (T10.setTop (mkF m 149 #[.val (.long q0), .second, .val (.long q1), .second, .val (.long q2), .second, .val (.long q3), .second, .val (.long q4), .second, .val (.long q5), .second, .val (.long va), .second, .val (.long vb), .second, .val (.long vc), .second, .val (.ref b1), .val (.long (own_fp 64 f3)), .second, .val (.long k1), .second, .val (.long k2), .second, .val (.long k3), .second, .unset, .unset] [(.long ((own_kp (own_z ((0 : Int64) < ((va + vb) + vc))) ((q0 &&& q1) &&& q2)) ||| (own_kp (own_z ((0 : Int64) < ((va + vb) - vc))) ((q0 &&& q1) &&& k3))))])) t
      refine XS.iconst X10.here hx rfl (hb hby at_149) ?_
      show Steps p.tables e below (T10.setTop (mkF m 150 #[.val (.long q0), .second, .val (.long q1), .second, .val (.long q2), .second, .val (.long q3), .second, .val (.long q4), .second, .val (.long q5), .second, .val (.long va), .second, .val (.long vb), .second, .val (.long vc), .second, .val (.ref b1), .val (.long (own_fp 64 f3)), .second, .val (.long k1), .second, .val (.long k2), .second, .val (.long k3), .second, .unset, .unset] [(.int (1 : Int32)), (.long ((own_kp (own_z ((0 : Int64) < ((va + vb) + vc))) ((q0 &&& q1) &&& q2)) ||| (own_kp (own_z ((0 : Int64) < ((va + vb) - vc))) ((q0 &&& q1) &&& k3))))])) t
      refine XS.goto X10.here hx rfl (pc0 := 150) (pc' := 154) rfl (hb hby at_150) (by decide) (by decide) ?_
      show Steps p.tables e below (T10.setTop (mkF m 154 #[.val (.long q0), .second, .val (.long q1), .second, .val (.long q2), .second, .val (.long q3), .second, .val (.long q4), .second, .val (.long q5), .second, .val (.long va), .second, .val (.long vb), .second, .val (.long vc), .second, .val (.ref b1), .val (.long (own_fp 64 f3)), .second, .val (.long k1), .second, .val (.long k2), .second, .val (.long k3), .second, .unset, .unset] [(.int (1 : Int32)), (.long ((own_kp (own_z ((0 : Int64) < ((va + vb) + vc))) ((q0 &&& q1) &&& q2)) ||| (own_kp (own_z ((0 : Int64) < ((va + vb) - vc))) ((q0 &&& q1) &&& k3))))])) t
      rw [own_z_t hc146_11] at kt
      exact kt
    · show Steps p.tables e below (T10.setTop (mkF m 146 #[.val (.long q0), .second, .val (.long q1), .second, .val (.long q2), .second, .val (.long q3), .second, .val (.long q4), .second, .val (.long q5), .second, .val (.long va), .second, .val (.long vb), .second, .val (.long vc), .second, .val (.ref b1), .val (.long (own_fp 64 f3)), .second, .val (.long k1), .second, .val (.long k2), .second, .val (.long k3), .second, .unset, .unset] [(.int (lcmpW ((va - vb) + vc) (0 : Int64))), (.long ((own_kp (own_z ((0 : Int64) < ((va + vb) + vc))) ((q0 &&& q1) &&& q2)) ||| (own_kp (own_z ((0 : Int64) < ((va + vb) - vc))) ((q0 &&& q1) &&& k3))))])) t
      refine XS.ifYes X10.here hx rfl (pc0 := 146) (pc' := 153) rfl (hb hby at_146) rfl (own_lY_le hc146_11) (by decide) (by decide) ?_
      show Steps p.tables e below (T10.setTop (mkF m 153 #[.val (.long q0), .second, .val (.long q1), .second, .val (.long q2), .second, .val (.long q3), .second, .val (.long q4), .second, .val (.long q5), .second, .val (.long va), .second, .val (.long vb), .second, .val (.long vc), .second, .val (.ref b1), .val (.long (own_fp 64 f3)), .second, .val (.long k1), .second, .val (.long k2), .second, .val (.long k3), .second, .unset, .unset] [(.long ((own_kp (own_z ((0 : Int64) < ((va + vb) + vc))) ((q0 &&& q1) &&& q2)) ||| (own_kp (own_z ((0 : Int64) < ((va + vb) - vc))) ((q0 &&& q1) &&& k3))))])) t
      refine XS.iconst X10.here hx rfl (hb hby at_153) ?_
      show Steps p.tables e below (T10.setTop (mkF m 154 #[.val (.long q0), .second, .val (.long q1), .second, .val (.long q2), .second, .val (.long q3), .second, .val (.long q4), .second, .val (.long q5), .second, .val (.long va), .second, .val (.long vb), .second, .val (.long vc), .second, .val (.ref b1), .val (.long (own_fp 64 f3)), .second, .val (.long k1), .second, .val (.long k2), .second, .val (.long k3), .second, .unset, .unset] [(.int (0 : Int32)), (.long ((own_kp (own_z ((0 : Int64) < ((va + vb) + vc))) ((q0 &&& q1) &&& q2)) ||| (own_kp (own_z ((0 : Int64) < ((va + vb) - vc))) ((q0 &&& q1) &&& k3))))])) t
      rw [own_z_f hc146_11] at kt
      exact kt
  refine own_go (T' := T10) (f' := (mkF m 161 #[.val (.long q0), .second, .val (.long q1), .second, .val (.long q2), .second, .val (.long q3), .second, .val (.long q4), .second, .val (.long q5), .second, .val (.long va), .second, .val (.long vb), .second, .val (.long vc), .second, .val (.ref b1), .val (.long (own_fp 64 f3)), .second, .val (.long k1), .second, .val (.long k2), .second, .val (.long k3), .second, .unset, .unset] [(.long ((q0 &&& k2) &&& q2)), (.int (own_z ((0 : Int64) < ((va - vb) + vc)))), (.long ((own_kp (own_z ((0 : Int64) < ((va + vb) + vc))) ((q0 &&& q1) &&& q2)) ||| (own_kp (own_z ((0 : Int64) < ((va + vb) - vc))) ((q0 &&& q1) &&& k3))))])) (fun t kt => ?_) ?_
  · show Steps p.tables e below (T10.setTop (mkF m 154 #[.val (.long q0), .second, .val (.long q1), .second, .val (.long q2), .second, .val (.long q3), .second, .val (.long q4), .second, .val (.long q5), .second, .val (.long va), .second, .val (.long vb), .second, .val (.long vc), .second, .val (.ref b1), .val (.long (own_fp 64 f3)), .second, .val (.long k1), .second, .val (.long k2), .second, .val (.long k3), .second, .unset, .unset] [(.int (own_z ((0 : Int64) < ((va - vb) + vc)))), (.long ((own_kp (own_z ((0 : Int64) < ((va + vb) + vc))) ((q0 &&& q1) &&& q2)) ||| (own_kp (own_z ((0 : Int64) < ((va + vb) - vc))) ((q0 &&& q1) &&& k3))))])) t
    refine XS.lloadN X10.here hx rfl (hb hby at_154) rfl ?_
    show Steps p.tables e below (T10.setTop (mkF m 155 #[.val (.long q0), .second, .val (.long q1), .second, .val (.long q2), .second, .val (.long q3), .second, .val (.long q4), .second, .val (.long q5), .second, .val (.long va), .second, .val (.long vb), .second, .val (.long vc), .second, .val (.ref b1), .val (.long (own_fp 64 f3)), .second, .val (.long k1), .second, .val (.long k2), .second, .val (.long k3), .second, .unset, .unset] [(.long q0), (.int (own_z ((0 : Int64) < ((va - vb) + vc)))), (.long ((own_kp (own_z ((0 : Int64) < ((va + vb) + vc))) ((q0 &&& q1) &&& q2)) ||| (own_kp (own_z ((0 : Int64) < ((va + vb) - vc))) ((q0 &&& q1) &&& k3))))])) t
    refine XS.lload X10.here hx rfl (hb hby at_155) rfl ?_
    show Steps p.tables e below (T10.setTop (mkF m 157 #[.val (.long q0), .second, .val (.long q1), .second, .val (.long q2), .second, .val (.long q3), .second, .val (.long q4), .second, .val (.long q5), .second, .val (.long va), .second, .val (.long vb), .second, .val (.long vc), .second, .val (.ref b1), .val (.long (own_fp 64 f3)), .second, .val (.long k1), .second, .val (.long k2), .second, .val (.long k3), .second, .unset, .unset] [(.long k2), (.long q0), (.int (own_z ((0 : Int64) < ((va - vb) + vc)))), (.long ((own_kp (own_z ((0 : Int64) < ((va + vb) + vc))) ((q0 &&& q1) &&& q2)) ||| (own_kp (own_z ((0 : Int64) < ((va + vb) - vc))) ((q0 &&& q1) &&& k3))))])) t
    refine XS.land X10.here hx rfl (hb hby at_157) rfl ?_
    show Steps p.tables e below (T10.setTop (mkF m 158 #[.val (.long q0), .second, .val (.long q1), .second, .val (.long q2), .second, .val (.long q3), .second, .val (.long q4), .second, .val (.long q5), .second, .val (.long va), .second, .val (.long vb), .second, .val (.long vc), .second, .val (.ref b1), .val (.long (own_fp 64 f3)), .second, .val (.long k1), .second, .val (.long k2), .second, .val (.long k3), .second, .unset, .unset] [(.long (q0 &&& k2)), (.int (own_z ((0 : Int64) < ((va - vb) + vc)))), (.long ((own_kp (own_z ((0 : Int64) < ((va + vb) + vc))) ((q0 &&& q1) &&& q2)) ||| (own_kp (own_z ((0 : Int64) < ((va + vb) - vc))) ((q0 &&& q1) &&& k3))))])) t
    refine XS.lload X10.here hx rfl (hb hby at_158) rfl ?_
    show Steps p.tables e below (T10.setTop (mkF m 160 #[.val (.long q0), .second, .val (.long q1), .second, .val (.long q2), .second, .val (.long q3), .second, .val (.long q4), .second, .val (.long q5), .second, .val (.long va), .second, .val (.long vb), .second, .val (.long vc), .second, .val (.ref b1), .val (.long (own_fp 64 f3)), .second, .val (.long k1), .second, .val (.long k2), .second, .val (.long k3), .second, .unset, .unset] [(.long q2), (.long (q0 &&& k2)), (.int (own_z ((0 : Int64) < ((va - vb) + vc)))), (.long ((own_kp (own_z ((0 : Int64) < ((va + vb) + vc))) ((q0 &&& q1) &&& q2)) ||| (own_kp (own_z ((0 : Int64) < ((va + vb) - vc))) ((q0 &&& q1) &&& k3))))])) t
    refine XS.land X10.here hx rfl (hb hby at_160) rfl ?_
    show Steps p.tables e below (T10.setTop (mkF m 161 #[.val (.long q0), .second, .val (.long q1), .second, .val (.long q2), .second, .val (.long q3), .second, .val (.long q4), .second, .val (.long q5), .second, .val (.long va), .second, .val (.long vb), .second, .val (.long vc), .second, .val (.ref b1), .val (.long (own_fp 64 f3)), .second, .val (.long k1), .second, .val (.long k2), .second, .val (.long k3), .second, .unset, .unset] [(.long ((q0 &&& k2) &&& q2)), (.int (own_z ((0 : Int64) < ((va - vb) + vc)))), (.long ((own_kp (own_z ((0 : Int64) < ((va + vb) + vc))) ((q0 &&& q1) &&& q2)) ||| (own_kp (own_z ((0 : Int64) < ((va + vb) - vc))) ((q0 &&& q1) &&& k3))))])) t
    exact kt
  refine own_callSp X10 hx hZ hown e10 (hw _ (List.mem_of_getElem? (i := 30) rfl)) (hw _ (List.mem_of_getElem? (i := 31) rfl)) (hw _ (List.mem_of_getElem? (i := 32) rfl)) (hw _ (List.mem_of_getElem? (i := 33) rfl)) (by decide) (rm7 l Z aw hw (own_z ((0 : Int64) < ((va - vb) + vc))) ((q0 &&& k2) &&& q2) T5.heap n0 ZKq5) (g := (mkF m 161 #[.val (.long q0), .second, .val (.long q1), .second, .val (.long q2), .second, .val (.long q3), .second, .val (.long q4), .second, .val (.long q5), .second, .val (.long va), .second, .val (.long vb), .second, .val (.long vc), .second, .val (.ref b1), .val (.long (own_fp 64 f3)), .second, .val (.long k1), .second, .val (.long k2), .second, .val (.long k3), .second, .unset, .unset] [(.long ((q0 &&& k2) &&& q2)), (.int (own_z ((0 : Int64) < ((va - vb) + vc)))), (.long ((own_kp (own_z ((0 : Int64) < ((va + vb) + vc))) ((q0 &&& q1) &&& q2)) ||| (own_kp (own_z ((0 : Int64) < ((va + vb) - vc))) ((q0 &&& q1) &&& k3))))])) rfl (by rw [hml]; rfl) (argsL := [(.int (own_z ((0 : Int64) < ((va - vb) + vc)))), (.long ((q0 &&& k2) &&& q2))]) (rest := [(.long ((own_kp (own_z ((0 : Int64) < ((va + vb) + vc))) ((q0 &&& q1) &&& q2)) ||| (own_kp (own_z ((0 : Int64) < ((va + vb) - vc))) ((q0 &&& q1) &&& k3))))]) (lenOf pd_4 rfl) rfl rfl (W := 2) (by show 2 * 0 + _ ≤ _; exact Nat.le_of_eq rfl) (hb hby at_161) (by decide) (by decide) (by decide) (by decide) ?_
  intro T12 X12 e12
  refine own_go (T' := T12) (f' := (mkF m 175 #[.val (.long q0), .second, .val (.long q1), .second, .val (.long q2), .second, .val (.long q3), .second, .val (.long q4), .second, .val (.long q5), .second, .val (.long va), .second, .val (.long vb), .second, .val (.long vc), .second, .val (.ref b1), .val (.long (own_fp 64 f3)), .second, .val (.long k1), .second, .val (.long k2), .second, .val (.long k3), .second, .unset, .unset] [(.int (lcmpW ((va - vb) - vc) (0 : Int64))), (.long (((own_kp (own_z ((0 : Int64) < ((va + vb) + vc))) ((q0 &&& q1) &&& q2)) ||| (own_kp (own_z ((0 : Int64) < ((va + vb) - vc))) ((q0 &&& q1) &&& k3))) ||| (own_kp (own_z ((0 : Int64) < ((va - vb) + vc))) ((q0 &&& k2) &&& q2))))])) (fun t kt => ?_) ?_
  · show Steps p.tables e below (T12.setTop (mkF m 164 #[.val (.long q0), .second, .val (.long q1), .second, .val (.long q2), .second, .val (.long q3), .second, .val (.long q4), .second, .val (.long q5), .second, .val (.long va), .second, .val (.long vb), .second, .val (.long vc), .second, .val (.ref b1), .val (.long (own_fp 64 f3)), .second, .val (.long k1), .second, .val (.long k2), .second, .val (.long k3), .second, .unset, .unset] [(.long (own_kp (own_z ((0 : Int64) < ((va - vb) + vc))) ((q0 &&& k2) &&& q2))), (.long ((own_kp (own_z ((0 : Int64) < ((va + vb) + vc))) ((q0 &&& q1) &&& q2)) ||| (own_kp (own_z ((0 : Int64) < ((va + vb) - vc))) ((q0 &&& q1) &&& k3))))])) t
    refine XS.lor X12.here hx rfl (hb hby at_164) rfl ?_
    show Steps p.tables e below (T12.setTop (mkF m 165 #[.val (.long q0), .second, .val (.long q1), .second, .val (.long q2), .second, .val (.long q3), .second, .val (.long q4), .second, .val (.long q5), .second, .val (.long va), .second, .val (.long vb), .second, .val (.long vc), .second, .val (.ref b1), .val (.long (own_fp 64 f3)), .second, .val (.long k1), .second, .val (.long k2), .second, .val (.long k3), .second, .unset, .unset] [(.long (((own_kp (own_z ((0 : Int64) < ((va + vb) + vc))) ((q0 &&& q1) &&& q2)) ||| (own_kp (own_z ((0 : Int64) < ((va + vb) - vc))) ((q0 &&& q1) &&& k3))) ||| (own_kp (own_z ((0 : Int64) < ((va - vb) + vc))) ((q0 &&& k2) &&& q2))))])) t
    refine XS.lload X12.here hx rfl (hb hby at_165) rfl ?_
    show Steps p.tables e below (T12.setTop (mkF m 167 #[.val (.long q0), .second, .val (.long q1), .second, .val (.long q2), .second, .val (.long q3), .second, .val (.long q4), .second, .val (.long q5), .second, .val (.long va), .second, .val (.long vb), .second, .val (.long vc), .second, .val (.ref b1), .val (.long (own_fp 64 f3)), .second, .val (.long k1), .second, .val (.long k2), .second, .val (.long k3), .second, .unset, .unset] [(.long va), (.long (((own_kp (own_z ((0 : Int64) < ((va + vb) + vc))) ((q0 &&& q1) &&& q2)) ||| (own_kp (own_z ((0 : Int64) < ((va + vb) - vc))) ((q0 &&& q1) &&& k3))) ||| (own_kp (own_z ((0 : Int64) < ((va - vb) + vc))) ((q0 &&& k2) &&& q2))))])) t
    refine XS.lload X12.here hx rfl (hb hby at_167) rfl ?_
    show Steps p.tables e below (T12.setTop (mkF m 169 #[.val (.long q0), .second, .val (.long q1), .second, .val (.long q2), .second, .val (.long q3), .second, .val (.long q4), .second, .val (.long q5), .second, .val (.long va), .second, .val (.long vb), .second, .val (.long vc), .second, .val (.ref b1), .val (.long (own_fp 64 f3)), .second, .val (.long k1), .second, .val (.long k2), .second, .val (.long k3), .second, .unset, .unset] [(.long vb), (.long va), (.long (((own_kp (own_z ((0 : Int64) < ((va + vb) + vc))) ((q0 &&& q1) &&& q2)) ||| (own_kp (own_z ((0 : Int64) < ((va + vb) - vc))) ((q0 &&& q1) &&& k3))) ||| (own_kp (own_z ((0 : Int64) < ((va - vb) + vc))) ((q0 &&& k2) &&& q2))))])) t
    refine XS.lsub X12.here hx rfl (hb hby at_169) rfl ?_
    show Steps p.tables e below (T12.setTop (mkF m 170 #[.val (.long q0), .second, .val (.long q1), .second, .val (.long q2), .second, .val (.long q3), .second, .val (.long q4), .second, .val (.long q5), .second, .val (.long va), .second, .val (.long vb), .second, .val (.long vc), .second, .val (.ref b1), .val (.long (own_fp 64 f3)), .second, .val (.long k1), .second, .val (.long k2), .second, .val (.long k3), .second, .unset, .unset] [(.long (va - vb)), (.long (((own_kp (own_z ((0 : Int64) < ((va + vb) + vc))) ((q0 &&& q1) &&& q2)) ||| (own_kp (own_z ((0 : Int64) < ((va + vb) - vc))) ((q0 &&& q1) &&& k3))) ||| (own_kp (own_z ((0 : Int64) < ((va - vb) + vc))) ((q0 &&& k2) &&& q2))))])) t
    refine XS.lload X12.here hx rfl (hb hby at_170) rfl ?_
    show Steps p.tables e below (T12.setTop (mkF m 172 #[.val (.long q0), .second, .val (.long q1), .second, .val (.long q2), .second, .val (.long q3), .second, .val (.long q4), .second, .val (.long q5), .second, .val (.long va), .second, .val (.long vb), .second, .val (.long vc), .second, .val (.ref b1), .val (.long (own_fp 64 f3)), .second, .val (.long k1), .second, .val (.long k2), .second, .val (.long k3), .second, .unset, .unset] [(.long vc), (.long (va - vb)), (.long (((own_kp (own_z ((0 : Int64) < ((va + vb) + vc))) ((q0 &&& q1) &&& q2)) ||| (own_kp (own_z ((0 : Int64) < ((va + vb) - vc))) ((q0 &&& q1) &&& k3))) ||| (own_kp (own_z ((0 : Int64) < ((va - vb) + vc))) ((q0 &&& k2) &&& q2))))])) t
    refine XS.lsub X12.here hx rfl (hb hby at_172) rfl ?_
    show Steps p.tables e below (T12.setTop (mkF m 173 #[.val (.long q0), .second, .val (.long q1), .second, .val (.long q2), .second, .val (.long q3), .second, .val (.long q4), .second, .val (.long q5), .second, .val (.long va), .second, .val (.long vb), .second, .val (.long vc), .second, .val (.ref b1), .val (.long (own_fp 64 f3)), .second, .val (.long k1), .second, .val (.long k2), .second, .val (.long k3), .second, .unset, .unset] [(.long ((va - vb) - vc)), (.long (((own_kp (own_z ((0 : Int64) < ((va + vb) + vc))) ((q0 &&& q1) &&& q2)) ||| (own_kp (own_z ((0 : Int64) < ((va + vb) - vc))) ((q0 &&& q1) &&& k3))) ||| (own_kp (own_z ((0 : Int64) < ((va - vb) + vc))) ((q0 &&& k2) &&& q2))))])) t
    refine XS.lconst X12.here hx rfl (hb hby at_173) ?_
    show Steps p.tables e below (T12.setTop (mkF m 174 #[.val (.long q0), .second, .val (.long q1), .second, .val (.long q2), .second, .val (.long q3), .second, .val (.long q4), .second, .val (.long q5), .second, .val (.long va), .second, .val (.long vb), .second, .val (.long vc), .second, .val (.ref b1), .val (.long (own_fp 64 f3)), .second, .val (.long k1), .second, .val (.long k2), .second, .val (.long k3), .second, .unset, .unset] [(.long (0 : Int64)), (.long ((va - vb) - vc)), (.long (((own_kp (own_z ((0 : Int64) < ((va + vb) + vc))) ((q0 &&& q1) &&& q2)) ||| (own_kp (own_z ((0 : Int64) < ((va + vb) - vc))) ((q0 &&& q1) &&& k3))) ||| (own_kp (own_z ((0 : Int64) < ((va - vb) + vc))) ((q0 &&& k2) &&& q2))))])) t
    refine XS.lcmp X12.here hx rfl (hb hby at_174) rfl ?_
    show Steps p.tables e below (T12.setTop (mkF m 175 #[.val (.long q0), .second, .val (.long q1), .second, .val (.long q2), .second, .val (.long q3), .second, .val (.long q4), .second, .val (.long q5), .second, .val (.long va), .second, .val (.long vb), .second, .val (.long vc), .second, .val (.ref b1), .val (.long (own_fp 64 f3)), .second, .val (.long k1), .second, .val (.long k2), .second, .val (.long k3), .second, .unset, .unset] [(.int (lcmpW ((va - vb) - vc) (0 : Int64))), (.long (((own_kp (own_z ((0 : Int64) < ((va + vb) + vc))) ((q0 &&& q1) &&& q2)) ||| (own_kp (own_z ((0 : Int64) < ((va + vb) - vc))) ((q0 &&& q1) &&& k3))) ||| (own_kp (own_z ((0 : Int64) < ((va - vb) + vc))) ((q0 &&& k2) &&& q2))))])) t
    exact kt
  refine own_go (T' := T12) (f' := (mkF m 183 #[.val (.long q0), .second, .val (.long q1), .second, .val (.long q2), .second, .val (.long q3), .second, .val (.long q4), .second, .val (.long q5), .second, .val (.long va), .second, .val (.long vb), .second, .val (.long vc), .second, .val (.ref b1), .val (.long (own_fp 64 f3)), .second, .val (.long k1), .second, .val (.long k2), .second, .val (.long k3), .second, .unset, .unset] [(.int (own_z ((0 : Int64) < ((va - vb) - vc)))), (.long (((own_kp (own_z ((0 : Int64) < ((va + vb) + vc))) ((q0 &&& q1) &&& q2)) ||| (own_kp (own_z ((0 : Int64) < ((va + vb) - vc))) ((q0 &&& q1) &&& k3))) ||| (own_kp (own_z ((0 : Int64) < ((va - vb) + vc))) ((q0 &&& k2) &&& q2))))])) (fun t kt => ?_) ?_
  · by_cases hc175_13 : (0 : Int64) < ((va - vb) - vc)
    · show Steps p.tables e below (T12.setTop (mkF m 175 #[.val (.long q0), .second, .val (.long q1), .second, .val (.long q2), .second, .val (.long q3), .second, .val (.long q4), .second, .val (.long q5), .second, .val (.long va), .second, .val (.long vb), .second, .val (.long vc), .second, .val (.ref b1), .val (.long (own_fp 64 f3)), .second, .val (.long k1), .second, .val (.long k2), .second, .val (.long k3), .second, .unset, .unset] [(.int (lcmpW ((va - vb) - vc) (0 : Int64))), (.long (((own_kp (own_z ((0 : Int64) < ((va + vb) + vc))) ((q0 &&& q1) &&& q2)) ||| (own_kp (own_z ((0 : Int64) < ((va + vb) - vc))) ((q0 &&& q1) &&& k3))) ||| (own_kp (own_z ((0 : Int64) < ((va - vb) + vc))) ((q0 &&& k2) &&& q2))))])) t
      refine XS.ifNo X12.here hx rfl (hb hby at_175) rfl (own_lN_le hc175_13) ?_
      show Steps p.tables e below (T12.setTop (mkF m 178 #[.val (.long q0), .second, .val (.long q1), .second, .val (.long q2), .second, .val (.long q3), .second, .val (.long q4), .second, .val (.long q5), .second, .val (.long va), .second, .val (.long vb), .second, .val (.long vc), .second, .val (.ref b1), .val (.long (own_fp 64 f3)), .second, .val (.long k1), .second, .val (.long k2), .second, .val (.long k3), .second, .unset, .unset] [(.long (((own_kp (own_z ((0 : Int64) < ((va + vb) + vc))) ((q0 &&& q1) &&& q2)) ||| (own_kp (own_z ((0 : Int64) < ((va + vb) - vc))) ((q0 &&& q1) &&& k3))) ||| (own_kp (own_z ((0 : Int64) < ((va - vb) + vc))) ((q0 &&& k2) &&& q2))))])) t
      refine XS.iconst X12.here hx rfl (hb hby at_178) ?_
      show Steps p.tables e below (T12.setTop (mkF m 179 #[.val (.long q0), .second, .val (.long q1), .second, .val (.long q2), .second, .val (.long q3), .second, .val (.long q4), .second, .val (.long q5), .second, .val (.long va), .second, .val (.long vb), .second, .val (.long vc), .second, .val (.ref b1), .val (.long (own_fp 64 f3)), .second, .val (.long k1), .second, .val (.long k2), .second, .val (.long k3), .second, .unset, .unset] [(.int (1 : Int32)), (.long (((own_kp (own_z ((0 : Int64) < ((va + vb) + vc))) ((q0 &&& q1) &&& q2)) ||| (own_kp (own_z ((0 : Int64) < ((va + vb) - vc))) ((q0 &&& q1) &&& k3))) ||| (own_kp (own_z ((0 : Int64) < ((va - vb) + vc))) ((q0 &&& k2) &&& q2))))])) t
      refine XS.goto X12.here hx rfl (pc0 := 179) (pc' := 183) rfl (hb hby at_179) (by decide) (by decide) ?_
      show Steps p.tables e below (T12.setTop (mkF m 183 #[.val (.long q0), .second, .val (.long q1), .second, .val (.long q2), .second, .val (.long q3), .second, .val (.long q4), .second, .val (.long q5), .second, .val (.long va), .second, .val (.long vb), .second, .val (.long vc), .second, .val (.ref b1), .val (.long (own_fp 64 f3)), .second, .val (.long k1), .second, .val (.long k2), .second, .val (.long k3), .second, .unset, .unset] [(.int (1 : Int32)), (.long (((own_kp (own_z ((0 : Int64) < ((va + vb) + vc))) ((q0 &&& q1) &&& q2)) ||| (own_kp (own_z ((0 : Int64) < ((va + vb) - vc))) ((q0 &&& q1) &&& k3))) ||| (own_kp (own_z ((0 : Int64) < ((va - vb) + vc))) ((q0 &&& k2) &&& q2))))])) t
      rw [own_z_t hc175_13] at kt
      exact kt
    · show Steps p.tables e below (T12.setTop (mkF m 175 #[.val (.long q0), .second, .val (.long q1), .second, .val (.long q2), .second, .val (.long q3), .second, .val (.long q4), .second, .val (.long q5), .second, .val (.long va), .second, .val (.long vb), .second, .val (.long vc), .second, .val (.ref b1), .val (.long (own_fp 64 f3)), .second, .val (.long k1), .second, .val (.long k2), .second, .val (.long k3), .second, .unset, .unset] [(.int (lcmpW ((va - vb) - vc) (0 : Int64))), (.long (((own_kp (own_z ((0 : Int64) < ((va + vb) + vc))) ((q0 &&& q1) &&& q2)) ||| (own_kp (own_z ((0 : Int64) < ((va + vb) - vc))) ((q0 &&& q1) &&& k3))) ||| (own_kp (own_z ((0 : Int64) < ((va - vb) + vc))) ((q0 &&& k2) &&& q2))))])) t
      refine XS.ifYes X12.here hx rfl (pc0 := 175) (pc' := 182) rfl (hb hby at_175) rfl (own_lY_le hc175_13) (by decide) (by decide) ?_
      show Steps p.tables e below (T12.setTop (mkF m 182 #[.val (.long q0), .second, .val (.long q1), .second, .val (.long q2), .second, .val (.long q3), .second, .val (.long q4), .second, .val (.long q5), .second, .val (.long va), .second, .val (.long vb), .second, .val (.long vc), .second, .val (.ref b1), .val (.long (own_fp 64 f3)), .second, .val (.long k1), .second, .val (.long k2), .second, .val (.long k3), .second, .unset, .unset] [(.long (((own_kp (own_z ((0 : Int64) < ((va + vb) + vc))) ((q0 &&& q1) &&& q2)) ||| (own_kp (own_z ((0 : Int64) < ((va + vb) - vc))) ((q0 &&& q1) &&& k3))) ||| (own_kp (own_z ((0 : Int64) < ((va - vb) + vc))) ((q0 &&& k2) &&& q2))))])) t
      refine XS.iconst X12.here hx rfl (hb hby at_182) ?_
      show Steps p.tables e below (T12.setTop (mkF m 183 #[.val (.long q0), .second, .val (.long q1), .second, .val (.long q2), .second, .val (.long q3), .second, .val (.long q4), .second, .val (.long q5), .second, .val (.long va), .second, .val (.long vb), .second, .val (.long vc), .second, .val (.ref b1), .val (.long (own_fp 64 f3)), .second, .val (.long k1), .second, .val (.long k2), .second, .val (.long k3), .second, .unset, .unset] [(.int (0 : Int32)), (.long (((own_kp (own_z ((0 : Int64) < ((va + vb) + vc))) ((q0 &&& q1) &&& q2)) ||| (own_kp (own_z ((0 : Int64) < ((va + vb) - vc))) ((q0 &&& q1) &&& k3))) ||| (own_kp (own_z ((0 : Int64) < ((va - vb) + vc))) ((q0 &&& k2) &&& q2))))])) t
      rw [own_z_f hc175_13] at kt
      exact kt
  refine own_go (T' := T12) (f' := (mkF m 190 #[.val (.long q0), .second, .val (.long q1), .second, .val (.long q2), .second, .val (.long q3), .second, .val (.long q4), .second, .val (.long q5), .second, .val (.long va), .second, .val (.long vb), .second, .val (.long vc), .second, .val (.ref b1), .val (.long (own_fp 64 f3)), .second, .val (.long k1), .second, .val (.long k2), .second, .val (.long k3), .second, .unset, .unset] [(.long ((q0 &&& k2) &&& k3)), (.int (own_z ((0 : Int64) < ((va - vb) - vc)))), (.long (((own_kp (own_z ((0 : Int64) < ((va + vb) + vc))) ((q0 &&& q1) &&& q2)) ||| (own_kp (own_z ((0 : Int64) < ((va + vb) - vc))) ((q0 &&& q1) &&& k3))) ||| (own_kp (own_z ((0 : Int64) < ((va - vb) + vc))) ((q0 &&& k2) &&& q2))))])) (fun t kt => ?_) ?_
  · show Steps p.tables e below (T12.setTop (mkF m 183 #[.val (.long q0), .second, .val (.long q1), .second, .val (.long q2), .second, .val (.long q3), .second, .val (.long q4), .second, .val (.long q5), .second, .val (.long va), .second, .val (.long vb), .second, .val (.long vc), .second, .val (.ref b1), .val (.long (own_fp 64 f3)), .second, .val (.long k1), .second, .val (.long k2), .second, .val (.long k3), .second, .unset, .unset] [(.int (own_z ((0 : Int64) < ((va - vb) - vc)))), (.long (((own_kp (own_z ((0 : Int64) < ((va + vb) + vc))) ((q0 &&& q1) &&& q2)) ||| (own_kp (own_z ((0 : Int64) < ((va + vb) - vc))) ((q0 &&& q1) &&& k3))) ||| (own_kp (own_z ((0 : Int64) < ((va - vb) + vc))) ((q0 &&& k2) &&& q2))))])) t
    refine XS.lloadN X12.here hx rfl (hb hby at_183) rfl ?_
    show Steps p.tables e below (T12.setTop (mkF m 184 #[.val (.long q0), .second, .val (.long q1), .second, .val (.long q2), .second, .val (.long q3), .second, .val (.long q4), .second, .val (.long q5), .second, .val (.long va), .second, .val (.long vb), .second, .val (.long vc), .second, .val (.ref b1), .val (.long (own_fp 64 f3)), .second, .val (.long k1), .second, .val (.long k2), .second, .val (.long k3), .second, .unset, .unset] [(.long q0), (.int (own_z ((0 : Int64) < ((va - vb) - vc)))), (.long (((own_kp (own_z ((0 : Int64) < ((va + vb) + vc))) ((q0 &&& q1) &&& q2)) ||| (own_kp (own_z ((0 : Int64) < ((va + vb) - vc))) ((q0 &&& q1) &&& k3))) ||| (own_kp (own_z ((0 : Int64) < ((va - vb) + vc))) ((q0 &&& k2) &&& q2))))])) t
    refine XS.lload X12.here hx rfl (hb hby at_184) rfl ?_
    show Steps p.tables e below (T12.setTop (mkF m 186 #[.val (.long q0), .second, .val (.long q1), .second, .val (.long q2), .second, .val (.long q3), .second, .val (.long q4), .second, .val (.long q5), .second, .val (.long va), .second, .val (.long vb), .second, .val (.long vc), .second, .val (.ref b1), .val (.long (own_fp 64 f3)), .second, .val (.long k1), .second, .val (.long k2), .second, .val (.long k3), .second, .unset, .unset] [(.long k2), (.long q0), (.int (own_z ((0 : Int64) < ((va - vb) - vc)))), (.long (((own_kp (own_z ((0 : Int64) < ((va + vb) + vc))) ((q0 &&& q1) &&& q2)) ||| (own_kp (own_z ((0 : Int64) < ((va + vb) - vc))) ((q0 &&& q1) &&& k3))) ||| (own_kp (own_z ((0 : Int64) < ((va - vb) + vc))) ((q0 &&& k2) &&& q2))))])) t
    refine XS.land X12.here hx rfl (hb hby at_186) rfl ?_
    show Steps p.tables e below (T12.setTop (mkF m 187 #[.val (.long q0), .second, .val (.long q1), .second, .val (.long q2), .second, .val (.long q3), .second, .val (.long q4), .second, .val (.long q5), .second, .val (.long va), .second, .val (.long vb), .second, .val (.long vc), .second, .val (.ref b1), .val (.long (own_fp 64 f3)), .second, .val (.long k1), .second, .val (.long k2), .second, .val (.long k3), .second, .unset, .unset] [(.long (q0 &&& k2)), (.int (own_z ((0 : Int64) < ((va - vb) - vc)))), (.long (((own_kp (own_z ((0 : Int64) < ((va + vb) + vc))) ((q0 &&& q1) &&& q2)) ||| (own_kp (own_z ((0 : Int64) < ((va + vb) - vc))) ((q0 &&& q1) &&& k3))) ||| (own_kp (own_z ((0 : Int64) < ((va - vb) + vc))) ((q0 &&& k2) &&& q2))))])) t
    refine XS.lload X12.here hx rfl (hb hby at_187) rfl ?_
    show Steps p.tables e below (T12.setTop (mkF m 189 #[.val (.long q0), .second, .val (.long q1), .second, .val (.long q2), .second, .val (.long q3), .second, .val (.long q4), .second, .val (.long q5), .second, .val (.long va), .second, .val (.long vb), .second, .val (.long vc), .second, .val (.ref b1), .val (.long (own_fp 64 f3)), .second, .val (.long k1), .second, .val (.long k2), .second, .val (.long k3), .second, .unset, .unset] [(.long k3), (.long (q0 &&& k2)), (.int (own_z ((0 : Int64) < ((va - vb) - vc)))), (.long (((own_kp (own_z ((0 : Int64) < ((va + vb) + vc))) ((q0 &&& q1) &&& q2)) ||| (own_kp (own_z ((0 : Int64) < ((va + vb) - vc))) ((q0 &&& q1) &&& k3))) ||| (own_kp (own_z ((0 : Int64) < ((va - vb) + vc))) ((q0 &&& k2) &&& q2))))])) t
    refine XS.land X12.here hx rfl (hb hby at_189) rfl ?_
    show Steps p.tables e below (T12.setTop (mkF m 190 #[.val (.long q0), .second, .val (.long q1), .second, .val (.long q2), .second, .val (.long q3), .second, .val (.long q4), .second, .val (.long q5), .second, .val (.long va), .second, .val (.long vb), .second, .val (.long vc), .second, .val (.ref b1), .val (.long (own_fp 64 f3)), .second, .val (.long k1), .second, .val (.long k2), .second, .val (.long k3), .second, .unset, .unset] [(.long ((q0 &&& k2) &&& k3)), (.int (own_z ((0 : Int64) < ((va - vb) - vc)))), (.long (((own_kp (own_z ((0 : Int64) < ((va + vb) + vc))) ((q0 &&& q1) &&& q2)) ||| (own_kp (own_z ((0 : Int64) < ((va + vb) - vc))) ((q0 &&& q1) &&& k3))) ||| (own_kp (own_z ((0 : Int64) < ((va - vb) + vc))) ((q0 &&& k2) &&& q2))))])) t
    exact kt
  refine own_callSp X12 hx hZ hown e12 (hw _ (List.mem_of_getElem? (i := 30) rfl)) (hw _ (List.mem_of_getElem? (i := 31) rfl)) (hw _ (List.mem_of_getElem? (i := 32) rfl)) (hw _ (List.mem_of_getElem? (i := 33) rfl)) (by decide) (rm7 l Z aw hw (own_z ((0 : Int64) < ((va - vb) - vc))) ((q0 &&& k2) &&& k3) T5.heap n0 ZKq5) (g := (mkF m 190 #[.val (.long q0), .second, .val (.long q1), .second, .val (.long q2), .second, .val (.long q3), .second, .val (.long q4), .second, .val (.long q5), .second, .val (.long va), .second, .val (.long vb), .second, .val (.long vc), .second, .val (.ref b1), .val (.long (own_fp 64 f3)), .second, .val (.long k1), .second, .val (.long k2), .second, .val (.long k3), .second, .unset, .unset] [(.long ((q0 &&& k2) &&& k3)), (.int (own_z ((0 : Int64) < ((va - vb) - vc)))), (.long (((own_kp (own_z ((0 : Int64) < ((va + vb) + vc))) ((q0 &&& q1) &&& q2)) ||| (own_kp (own_z ((0 : Int64) < ((va + vb) - vc))) ((q0 &&& q1) &&& k3))) ||| (own_kp (own_z ((0 : Int64) < ((va - vb) + vc))) ((q0 &&& k2) &&& q2))))])) rfl (by rw [hml]; rfl) (argsL := [(.int (own_z ((0 : Int64) < ((va - vb) - vc)))), (.long ((q0 &&& k2) &&& k3))]) (rest := [(.long (((own_kp (own_z ((0 : Int64) < ((va + vb) + vc))) ((q0 &&& q1) &&& q2)) ||| (own_kp (own_z ((0 : Int64) < ((va + vb) - vc))) ((q0 &&& q1) &&& k3))) ||| (own_kp (own_z ((0 : Int64) < ((va - vb) + vc))) ((q0 &&& k2) &&& q2))))]) (lenOf pd_4 rfl) rfl rfl (W := 2) (by show 2 * 0 + _ ≤ _; exact Nat.le_of_eq rfl) (hb hby at_190) (by decide) (by decide) (by decide) (by decide) ?_
  intro T14 X14 e14
  refine own_go (T' := T14) (f' := (mkF m 205 #[.val (.long q0), .second, .val (.long q1), .second, .val (.long q2), .second, .val (.long q3), .second, .val (.long q4), .second, .val (.long q5), .second, .val (.long va), .second, .val (.long vb), .second, .val (.long vc), .second, .val (.ref b1), .val (.long (own_fp 64 f3)), .second, .val (.long k1), .second, .val (.long k2), .second, .val (.long k3), .second, .unset, .unset] [(.int (lcmpW (((-va) + vb) + vc) (0 : Int64))), (.long ((((own_kp (own_z ((0 : Int64) < ((va + vb) + vc))) ((q0 &&& q1) &&& q2)) ||| (own_kp (own_z ((0 : Int64) < ((va + vb) - vc))) ((q0 &&& q1) &&& k3))) ||| (own_kp (own_z ((0 : Int64) < ((va - vb) + vc))) ((q0 &&& k2) &&& q2))) ||| (own_kp (own_z ((0 : Int64) < ((va - vb) - vc))) ((q0 &&& k2) &&& k3))))])) (fun t kt => ?_) ?_
  · show Steps p.tables e below (T14.setTop (mkF m 193 #[.val (.long q0), .second, .val (.long q1), .second, .val (.long q2), .second, .val (.long q3), .second, .val (.long q4), .second, .val (.long q5), .second, .val (.long va), .second, .val (.long vb), .second, .val (.long vc), .second, .val (.ref b1), .val (.long (own_fp 64 f3)), .second, .val (.long k1), .second, .val (.long k2), .second, .val (.long k3), .second, .unset, .unset] [(.long (own_kp (own_z ((0 : Int64) < ((va - vb) - vc))) ((q0 &&& k2) &&& k3))), (.long (((own_kp (own_z ((0 : Int64) < ((va + vb) + vc))) ((q0 &&& q1) &&& q2)) ||| (own_kp (own_z ((0 : Int64) < ((va + vb) - vc))) ((q0 &&& q1) &&& k3))) ||| (own_kp (own_z ((0 : Int64) < ((va - vb) + vc))) ((q0 &&& k2) &&& q2))))])) t
    refine XS.lor X14.here hx rfl (hb hby at_193) rfl ?_
    show Steps p.tables e below (T14.setTop (mkF m 194 #[.val (.long q0), .second, .val (.long q1), .second, .val (.long q2), .second, .val (.long q3), .second, .val (.long q4), .second, .val (.long q5), .second, .val (.long va), .second, .val (.long vb), .second, .val (.long vc), .second, .val (.ref b1), .val (.long (own_fp 64 f3)), .second, .val (.long k1), .second, .val (.long k2), .second, .val (.long k3), .second, .unset, .unset] [(.long ((((own_kp (own_z ((0 : Int64) < ((va + vb) + vc))) ((q0 &&& q1) &&& q2)) ||| (own_kp (own_z ((0 : Int64) < ((va + vb) - vc))) ((q0 &&& q1) &&& k3))) ||| (own_kp (own_z ((0 : Int64) < ((va - vb) + vc))) ((q0 &&& k2) &&& q2))) ||| (own_kp (own_z ((0 : Int64) < ((va - vb) - vc))) ((q0 &&& k2) &&& k3))))])) t
    refine XS.lload X14.here hx rfl (hb hby at_194) rfl ?_
    show Steps p.tables e below (T14.setTop (mkF m 196 #[.val (.long q0), .second, .val (.long q1), .second, .val (.long q2), .second, .val (.long q3), .second, .val (.long q4), .second, .val (.long q5), .second, .val (.long va), .second, .val (.long vb), .second, .val (.long vc), .second, .val (.ref b1), .val (.long (own_fp 64 f3)), .second, .val (.long k1), .second, .val (.long k2), .second, .val (.long k3), .second, .unset, .unset] [(.long va), (.long ((((own_kp (own_z ((0 : Int64) < ((va + vb) + vc))) ((q0 &&& q1) &&& q2)) ||| (own_kp (own_z ((0 : Int64) < ((va + vb) - vc))) ((q0 &&& q1) &&& k3))) ||| (own_kp (own_z ((0 : Int64) < ((va - vb) + vc))) ((q0 &&& k2) &&& q2))) ||| (own_kp (own_z ((0 : Int64) < ((va - vb) - vc))) ((q0 &&& k2) &&& k3))))])) t
    refine XS.lneg X14.here hx rfl (hb hby at_196) rfl ?_
    show Steps p.tables e below (T14.setTop (mkF m 197 #[.val (.long q0), .second, .val (.long q1), .second, .val (.long q2), .second, .val (.long q3), .second, .val (.long q4), .second, .val (.long q5), .second, .val (.long va), .second, .val (.long vb), .second, .val (.long vc), .second, .val (.ref b1), .val (.long (own_fp 64 f3)), .second, .val (.long k1), .second, .val (.long k2), .second, .val (.long k3), .second, .unset, .unset] [(.long (-va)), (.long ((((own_kp (own_z ((0 : Int64) < ((va + vb) + vc))) ((q0 &&& q1) &&& q2)) ||| (own_kp (own_z ((0 : Int64) < ((va + vb) - vc))) ((q0 &&& q1) &&& k3))) ||| (own_kp (own_z ((0 : Int64) < ((va - vb) + vc))) ((q0 &&& k2) &&& q2))) ||| (own_kp (own_z ((0 : Int64) < ((va - vb) - vc))) ((q0 &&& k2) &&& k3))))])) t
    refine XS.lload X14.here hx rfl (hb hby at_197) rfl ?_
    show Steps p.tables e below (T14.setTop (mkF m 199 #[.val (.long q0), .second, .val (.long q1), .second, .val (.long q2), .second, .val (.long q3), .second, .val (.long q4), .second, .val (.long q5), .second, .val (.long va), .second, .val (.long vb), .second, .val (.long vc), .second, .val (.ref b1), .val (.long (own_fp 64 f3)), .second, .val (.long k1), .second, .val (.long k2), .second, .val (.long k3), .second, .unset, .unset] [(.long vb), (.long (-va)), (.long ((((own_kp (own_z ((0 : Int64) < ((va + vb) + vc))) ((q0 &&& q1) &&& q2)) ||| (own_kp (own_z ((0 : Int64) < ((va + vb) - vc))) ((q0 &&& q1) &&& k3))) ||| (own_kp (own_z ((0 : Int64) < ((va - vb) + vc))) ((q0 &&& k2) &&& q2))) ||| (own_kp (own_z ((0 : Int64) < ((va - vb) - vc))) ((q0 &&& k2) &&& k3))))])) t
    refine XS.ladd X14.here hx rfl (hb hby at_199) rfl ?_
    show Steps p.tables e below (T14.setTop (mkF m 200 #[.val (.long q0), .second, .val (.long q1), .second, .val (.long q2), .second, .val (.long q3), .second, .val (.long q4), .second, .val (.long q5), .second, .val (.long va), .second, .val (.long vb), .second, .val (.long vc), .second, .val (.ref b1), .val (.long (own_fp 64 f3)), .second, .val (.long k1), .second, .val (.long k2), .second, .val (.long k3), .second, .unset, .unset] [(.long ((-va) + vb)), (.long ((((own_kp (own_z ((0 : Int64) < ((va + vb) + vc))) ((q0 &&& q1) &&& q2)) ||| (own_kp (own_z ((0 : Int64) < ((va + vb) - vc))) ((q0 &&& q1) &&& k3))) ||| (own_kp (own_z ((0 : Int64) < ((va - vb) + vc))) ((q0 &&& k2) &&& q2))) ||| (own_kp (own_z ((0 : Int64) < ((va - vb) - vc))) ((q0 &&& k2) &&& k3))))])) t
    refine XS.lload X14.here hx rfl (hb hby at_200) rfl ?_
    show Steps p.tables e below (T14.setTop (mkF m 202 #[.val (.long q0), .second, .val (.long q1), .second, .val (.long q2), .second, .val (.long q3), .second, .val (.long q4), .second, .val (.long q5), .second, .val (.long va), .second, .val (.long vb), .second, .val (.long vc), .second, .val (.ref b1), .val (.long (own_fp 64 f3)), .second, .val (.long k1), .second, .val (.long k2), .second, .val (.long k3), .second, .unset, .unset] [(.long vc), (.long ((-va) + vb)), (.long ((((own_kp (own_z ((0 : Int64) < ((va + vb) + vc))) ((q0 &&& q1) &&& q2)) ||| (own_kp (own_z ((0 : Int64) < ((va + vb) - vc))) ((q0 &&& q1) &&& k3))) ||| (own_kp (own_z ((0 : Int64) < ((va - vb) + vc))) ((q0 &&& k2) &&& q2))) ||| (own_kp (own_z ((0 : Int64) < ((va - vb) - vc))) ((q0 &&& k2) &&& k3))))])) t
    refine XS.ladd X14.here hx rfl (hb hby at_202) rfl ?_
    show Steps p.tables e below (T14.setTop (mkF m 203 #[.val (.long q0), .second, .val (.long q1), .second, .val (.long q2), .second, .val (.long q3), .second, .val (.long q4), .second, .val (.long q5), .second, .val (.long va), .second, .val (.long vb), .second, .val (.long vc), .second, .val (.ref b1), .val (.long (own_fp 64 f3)), .second, .val (.long k1), .second, .val (.long k2), .second, .val (.long k3), .second, .unset, .unset] [(.long (((-va) + vb) + vc)), (.long ((((own_kp (own_z ((0 : Int64) < ((va + vb) + vc))) ((q0 &&& q1) &&& q2)) ||| (own_kp (own_z ((0 : Int64) < ((va + vb) - vc))) ((q0 &&& q1) &&& k3))) ||| (own_kp (own_z ((0 : Int64) < ((va - vb) + vc))) ((q0 &&& k2) &&& q2))) ||| (own_kp (own_z ((0 : Int64) < ((va - vb) - vc))) ((q0 &&& k2) &&& k3))))])) t
    refine XS.lconst X14.here hx rfl (hb hby at_203) ?_
    show Steps p.tables e below (T14.setTop (mkF m 204 #[.val (.long q0), .second, .val (.long q1), .second, .val (.long q2), .second, .val (.long q3), .second, .val (.long q4), .second, .val (.long q5), .second, .val (.long va), .second, .val (.long vb), .second, .val (.long vc), .second, .val (.ref b1), .val (.long (own_fp 64 f3)), .second, .val (.long k1), .second, .val (.long k2), .second, .val (.long k3), .second, .unset, .unset] [(.long (0 : Int64)), (.long (((-va) + vb) + vc)), (.long ((((own_kp (own_z ((0 : Int64) < ((va + vb) + vc))) ((q0 &&& q1) &&& q2)) ||| (own_kp (own_z ((0 : Int64) < ((va + vb) - vc))) ((q0 &&& q1) &&& k3))) ||| (own_kp (own_z ((0 : Int64) < ((va - vb) + vc))) ((q0 &&& k2) &&& q2))) ||| (own_kp (own_z ((0 : Int64) < ((va - vb) - vc))) ((q0 &&& k2) &&& k3))))])) t
    refine XS.lcmp X14.here hx rfl (hb hby at_204) rfl ?_
    show Steps p.tables e below (T14.setTop (mkF m 205 #[.val (.long q0), .second, .val (.long q1), .second, .val (.long q2), .second, .val (.long q3), .second, .val (.long q4), .second, .val (.long q5), .second, .val (.long va), .second, .val (.long vb), .second, .val (.long vc), .second, .val (.ref b1), .val (.long (own_fp 64 f3)), .second, .val (.long k1), .second, .val (.long k2), .second, .val (.long k3), .second, .unset, .unset] [(.int (lcmpW (((-va) + vb) + vc) (0 : Int64))), (.long ((((own_kp (own_z ((0 : Int64) < ((va + vb) + vc))) ((q0 &&& q1) &&& q2)) ||| (own_kp (own_z ((0 : Int64) < ((va + vb) - vc))) ((q0 &&& q1) &&& k3))) ||| (own_kp (own_z ((0 : Int64) < ((va - vb) + vc))) ((q0 &&& k2) &&& q2))) ||| (own_kp (own_z ((0 : Int64) < ((va - vb) - vc))) ((q0 &&& k2) &&& k3))))])) t
    exact kt
  refine own_go (T' := T14) (f' := (mkF m 213 #[.val (.long q0), .second, .val (.long q1), .second, .val (.long q2), .second, .val (.long q3), .second, .val (.long q4), .second, .val (.long q5), .second, .val (.long va), .second, .val (.long vb), .second, .val (.long vc), .second, .val (.ref b1), .val (.long (own_fp 64 f3)), .second, .val (.long k1), .second, .val (.long k2), .second, .val (.long k3), .second, .unset, .unset] [(.int (own_z ((0 : Int64) < (((-va) + vb) + vc)))), (.long ((((own_kp (own_z ((0 : Int64) < ((va + vb) + vc))) ((q0 &&& q1) &&& q2)) ||| (own_kp (own_z ((0 : Int64) < ((va + vb) - vc))) ((q0 &&& q1) &&& k3))) ||| (own_kp (own_z ((0 : Int64) < ((va - vb) + vc))) ((q0 &&& k2) &&& q2))) ||| (own_kp (own_z ((0 : Int64) < ((va - vb) - vc))) ((q0 &&& k2) &&& k3))))])) (fun t kt => ?_) ?_
  · by_cases hc205_15 : (0 : Int64) < (((-va) + vb) + vc)
    · show Steps p.tables e below (T14.setTop (mkF m 205 #[.val (.long q0), .second, .val (.long q1), .second, .val (.long q2), .second, .val (.long q3), .second, .val (.long q4), .second, .val (.long q5), .second, .val (.long va), .second, .val (.long vb), .second, .val (.long vc), .second, .val (.ref b1), .val (.long (own_fp 64 f3)), .second, .val (.long k1), .second, .val (.long k2), .second, .val (.long k3), .second, .unset, .unset] [(.int (lcmpW (((-va) + vb) + vc) (0 : Int64))), (.long ((((own_kp (own_z ((0 : Int64) < ((va + vb) + vc))) ((q0 &&& q1) &&& q2)) ||| (own_kp (own_z ((0 : Int64) < ((va + vb) - vc))) ((q0 &&& q1) &&& k3))) ||| (own_kp (own_z ((0 : Int64) < ((va - vb) + vc))) ((q0 &&& k2) &&& q2))) ||| (own_kp (own_z ((0 : Int64) < ((va - vb) - vc))) ((q0 &&& k2) &&& k3))))])) t
      refine XS.ifNo X14.here hx rfl (hb hby at_205) rfl (own_lN_le hc205_15) ?_
      show Steps p.tables e below (T14.setTop (mkF m 208 #[.val (.long q0), .second, .val (.long q1), .second, .val (.long q2), .second, .val (.long q3), .second, .val (.long q4), .second, .val (.long q5), .second, .val (.long va), .second, .val (.long vb), .second, .val (.long vc), .second, .val (.ref b1), .val (.long (own_fp 64 f3)), .second, .val (.long k1), .second, .val (.long k2), .second, .val (.long k3), .second, .unset, .unset] [(.long ((((own_kp (own_z ((0 : Int64) < ((va + vb) + vc))) ((q0 &&& q1) &&& q2)) ||| (own_kp (own_z ((0 : Int64) < ((va + vb) - vc))) ((q0 &&& q1) &&& k3))) ||| (own_kp (own_z ((0 : Int64) < ((va - vb) + vc))) ((q0 &&& k2) &&& q2))) ||| (own_kp (own_z ((0 : Int64) < ((va - vb) - vc))) ((q0 &&& k2) &&& k3))))])) t
      refine XS.iconst X14.here hx rfl (hb hby at_208) ?_
      show Steps p.tables e below (T14.setTop (mkF m 209 #[.val (.long q0), .second, .val (.long q1), .second, .val (.long q2), .second, .val (.long q3), .second, .val (.long q4), .second, .val (.long q5), .second, .val (.long va), .second, .val (.long vb), .second, .val (.long vc), .second, .val (.ref b1), .val (.long (own_fp 64 f3)), .second, .val (.long k1), .second, .val (.long k2), .second, .val (.long k3), .second, .unset, .unset] [(.int (1 : Int32)), (.long ((((own_kp (own_z ((0 : Int64) < ((va + vb) + vc))) ((q0 &&& q1) &&& q2)) ||| (own_kp (own_z ((0 : Int64) < ((va + vb) - vc))) ((q0 &&& q1) &&& k3))) ||| (own_kp (own_z ((0 : Int64) < ((va - vb) + vc))) ((q0 &&& k2) &&& q2))) ||| (own_kp (own_z ((0 : Int64) < ((va - vb) - vc))) ((q0 &&& k2) &&& k3))))])) t
      refine XS.goto X14.here hx rfl (pc0 := 209) (pc' := 213) rfl (hb hby at_209) (by decide) (by decide) ?_
      show Steps p.tables e below (T14.setTop (mkF m 213 #[.val (.long q0), .second, .val (.long q1), .second, .val (.long q2), .second, .val (.long q3), .second, .val (.long q4), .second, .val (.long q5), .second, .val (.long va), .second, .val (.long vb), .second, .val (.long vc), .second, .val (.ref b1), .val (.long (own_fp 64 f3)), .second, .val (.long k1), .second, .val (.long k2), .second, .val (.long k3), .second, .unset, .unset] [(.int (1 : Int32)), (.long ((((own_kp (own_z ((0 : Int64) < ((va + vb) + vc))) ((q0 &&& q1) &&& q2)) ||| (own_kp (own_z ((0 : Int64) < ((va + vb) - vc))) ((q0 &&& q1) &&& k3))) ||| (own_kp (own_z ((0 : Int64) < ((va - vb) + vc))) ((q0 &&& k2) &&& q2))) ||| (own_kp (own_z ((0 : Int64) < ((va - vb) - vc))) ((q0 &&& k2) &&& k3))))])) t
      rw [own_z_t hc205_15] at kt
      exact kt
    · show Steps p.tables e below (T14.setTop (mkF m 205 #[.val (.long q0), .second, .val (.long q1), .second, .val (.long q2), .second, .val (.long q3), .second, .val (.long q4), .second, .val (.long q5), .second, .val (.long va), .second, .val (.long vb), .second, .val (.long vc), .second, .val (.ref b1), .val (.long (own_fp 64 f3)), .second, .val (.long k1), .second, .val (.long k2), .second, .val (.long k3), .second, .unset, .unset] [(.int (lcmpW (((-va) + vb) + vc) (0 : Int64))), (.long ((((own_kp (own_z ((0 : Int64) < ((va + vb) + vc))) ((q0 &&& q1) &&& q2)) ||| (own_kp (own_z ((0 : Int64) < ((va + vb) - vc))) ((q0 &&& q1) &&& k3))) ||| (own_kp (own_z ((0 : Int64) < ((va - vb) + vc))) ((q0 &&& k2) &&& q2))) ||| (own_kp (own_z ((0 : Int64) < ((va - vb) - vc))) ((q0 &&& k2) &&& k3))))])) t
      refine XS.ifYes X14.here hx rfl (pc0 := 205) (pc' := 212) rfl (hb hby at_205) rfl (own_lY_le hc205_15) (by decide) (by decide) ?_
      show Steps p.tables e below (T14.setTop (mkF m 212 #[.val (.long q0), .second, .val (.long q1), .second, .val (.long q2), .second, .val (.long q3), .second, .val (.long q4), .second, .val (.long q5), .second, .val (.long va), .second, .val (.long vb), .second, .val (.long vc), .second, .val (.ref b1), .val (.long (own_fp 64 f3)), .second, .val (.long k1), .second, .val (.long k2), .second, .val (.long k3), .second, .unset, .unset] [(.long ((((own_kp (own_z ((0 : Int64) < ((va + vb) + vc))) ((q0 &&& q1) &&& q2)) ||| (own_kp (own_z ((0 : Int64) < ((va + vb) - vc))) ((q0 &&& q1) &&& k3))) ||| (own_kp (own_z ((0 : Int64) < ((va - vb) + vc))) ((q0 &&& k2) &&& q2))) ||| (own_kp (own_z ((0 : Int64) < ((va - vb) - vc))) ((q0 &&& k2) &&& k3))))])) t
      refine XS.iconst X14.here hx rfl (hb hby at_212) ?_
      show Steps p.tables e below (T14.setTop (mkF m 213 #[.val (.long q0), .second, .val (.long q1), .second, .val (.long q2), .second, .val (.long q3), .second, .val (.long q4), .second, .val (.long q5), .second, .val (.long va), .second, .val (.long vb), .second, .val (.long vc), .second, .val (.ref b1), .val (.long (own_fp 64 f3)), .second, .val (.long k1), .second, .val (.long k2), .second, .val (.long k3), .second, .unset, .unset] [(.int (0 : Int32)), (.long ((((own_kp (own_z ((0 : Int64) < ((va + vb) + vc))) ((q0 &&& q1) &&& q2)) ||| (own_kp (own_z ((0 : Int64) < ((va + vb) - vc))) ((q0 &&& q1) &&& k3))) ||| (own_kp (own_z ((0 : Int64) < ((va - vb) + vc))) ((q0 &&& k2) &&& q2))) ||| (own_kp (own_z ((0 : Int64) < ((va - vb) - vc))) ((q0 &&& k2) &&& k3))))])) t
      rw [own_z_f hc205_15] at kt
      exact kt
  refine own_go (T' := T14) (f' := (mkF m 220 #[.val (.long q0), .second, .val (.long q1), .second, .val (.long q2), .second, .val (.long q3), .second, .val (.long q4), .second, .val (.long q5), .second, .val (.long va), .second, .val (.long vb), .second, .val (.long vc), .second, .val (.ref b1), .val (.long (own_fp 64 f3)), .second, .val (.long k1), .second, .val (.long k2), .second, .val (.long k3), .second, .unset, .unset] [(.long ((k1 &&& q1) &&& q2)), (.int (own_z ((0 : Int64) < (((-va) + vb) + vc)))), (.long ((((own_kp (own_z ((0 : Int64) < ((va + vb) + vc))) ((q0 &&& q1) &&& q2)) ||| (own_kp (own_z ((0 : Int64) < ((va + vb) - vc))) ((q0 &&& q1) &&& k3))) ||| (own_kp (own_z ((0 : Int64) < ((va - vb) + vc))) ((q0 &&& k2) &&& q2))) ||| (own_kp (own_z ((0 : Int64) < ((va - vb) - vc))) ((q0 &&& k2) &&& k3))))])) (fun t kt => ?_) ?_
  · show Steps p.tables e below (T14.setTop (mkF m 213 #[.val (.long q0), .second, .val (.long q1), .second, .val (.long q2), .second, .val (.long q3), .second, .val (.long q4), .second, .val (.long q5), .second, .val (.long va), .second, .val (.long vb), .second, .val (.long vc), .second, .val (.ref b1), .val (.long (own_fp 64 f3)), .second, .val (.long k1), .second, .val (.long k2), .second, .val (.long k3), .second, .unset, .unset] [(.int (own_z ((0 : Int64) < (((-va) + vb) + vc)))), (.long ((((own_kp (own_z ((0 : Int64) < ((va + vb) + vc))) ((q0 &&& q1) &&& q2)) ||| (own_kp (own_z ((0 : Int64) < ((va + vb) - vc))) ((q0 &&& q1) &&& k3))) ||| (own_kp (own_z ((0 : Int64) < ((va - vb) + vc))) ((q0 &&& k2) &&& q2))) ||| (own_kp (own_z ((0 : Int64) < ((va - vb) - vc))) ((q0 &&& k2) &&& k3))))])) t
    refine XS.lload X14.here hx rfl (hb hby at_213) rfl ?_
    show Steps p.tables e below (T14.setTop (mkF m 215 #[.val (.long q0), .second, .val (.long q1), .second, .val (.long q2), .second, .val (.long q3), .second, .val (.long q4), .second, .val (.long q5), .second, .val (.long va), .second, .val (.long vb), .second, .val (.long vc), .second, .val (.ref b1), .val (.long (own_fp 64 f3)), .second, .val (.long k1), .second, .val (.long k2), .second, .val (.long k3), .second, .unset, .unset] [(.long k1), (.int (own_z ((0 : Int64) < (((-va) + vb) + vc)))), (.long ((((own_kp (own_z ((0 : Int64) < ((va + vb) + vc))) ((q0 &&& q1) &&& q2)) ||| (own_kp (own_z ((0 : Int64) < ((va + vb) - vc))) ((q0 &&& q1) &&& k3))) ||| (own_kp (own_z ((0 : Int64) < ((va - vb) + vc))) ((q0 &&& k2) &&& q2))) ||| (own_kp (own_z ((0 : Int64) < ((va - vb) - vc))) ((q0 &&& k2) &&& k3))))])) t
    refine XS.lloadN X14.here hx rfl (hb hby at_215) rfl ?_
    show Steps p.tables e below (T14.setTop (mkF m 216 #[.val (.long q0), .second, .val (.long q1), .second, .val (.long q2), .second, .val (.long q3), .second, .val (.long q4), .second, .val (.long q5), .second, .val (.long va), .second, .val (.long vb), .second, .val (.long vc), .second, .val (.ref b1), .val (.long (own_fp 64 f3)), .second, .val (.long k1), .second, .val (.long k2), .second, .val (.long k3), .second, .unset, .unset] [(.long q1), (.long k1), (.int (own_z ((0 : Int64) < (((-va) + vb) + vc)))), (.long ((((own_kp (own_z ((0 : Int64) < ((va + vb) + vc))) ((q0 &&& q1) &&& q2)) ||| (own_kp (own_z ((0 : Int64) < ((va + vb) - vc))) ((q0 &&& q1) &&& k3))) ||| (own_kp (own_z ((0 : Int64) < ((va - vb) + vc))) ((q0 &&& k2) &&& q2))) ||| (own_kp (own_z ((0 : Int64) < ((va - vb) - vc))) ((q0 &&& k2) &&& k3))))])) t
    refine XS.land X14.here hx rfl (hb hby at_216) rfl ?_
    show Steps p.tables e below (T14.setTop (mkF m 217 #[.val (.long q0), .second, .val (.long q1), .second, .val (.long q2), .second, .val (.long q3), .second, .val (.long q4), .second, .val (.long q5), .second, .val (.long va), .second, .val (.long vb), .second, .val (.long vc), .second, .val (.ref b1), .val (.long (own_fp 64 f3)), .second, .val (.long k1), .second, .val (.long k2), .second, .val (.long k3), .second, .unset, .unset] [(.long (k1 &&& q1)), (.int (own_z ((0 : Int64) < (((-va) + vb) + vc)))), (.long ((((own_kp (own_z ((0 : Int64) < ((va + vb) + vc))) ((q0 &&& q1) &&& q2)) ||| (own_kp (own_z ((0 : Int64) < ((va + vb) - vc))) ((q0 &&& q1) &&& k3))) ||| (own_kp (own_z ((0 : Int64) < ((va - vb) + vc))) ((q0 &&& k2) &&& q2))) ||| (own_kp (own_z ((0 : Int64) < ((va - vb) - vc))) ((q0 &&& k2) &&& k3))))])) t
    refine XS.lload X14.here hx rfl (hb hby at_217) rfl ?_
    show Steps p.tables e below (T14.setTop (mkF m 219 #[.val (.long q0), .second, .val (.long q1), .second, .val (.long q2), .second, .val (.long q3), .second, .val (.long q4), .second, .val (.long q5), .second, .val (.long va), .second, .val (.long vb), .second, .val (.long vc), .second, .val (.ref b1), .val (.long (own_fp 64 f3)), .second, .val (.long k1), .second, .val (.long k2), .second, .val (.long k3), .second, .unset, .unset] [(.long q2), (.long (k1 &&& q1)), (.int (own_z ((0 : Int64) < (((-va) + vb) + vc)))), (.long ((((own_kp (own_z ((0 : Int64) < ((va + vb) + vc))) ((q0 &&& q1) &&& q2)) ||| (own_kp (own_z ((0 : Int64) < ((va + vb) - vc))) ((q0 &&& q1) &&& k3))) ||| (own_kp (own_z ((0 : Int64) < ((va - vb) + vc))) ((q0 &&& k2) &&& q2))) ||| (own_kp (own_z ((0 : Int64) < ((va - vb) - vc))) ((q0 &&& k2) &&& k3))))])) t
    refine XS.land X14.here hx rfl (hb hby at_219) rfl ?_
    show Steps p.tables e below (T14.setTop (mkF m 220 #[.val (.long q0), .second, .val (.long q1), .second, .val (.long q2), .second, .val (.long q3), .second, .val (.long q4), .second, .val (.long q5), .second, .val (.long va), .second, .val (.long vb), .second, .val (.long vc), .second, .val (.ref b1), .val (.long (own_fp 64 f3)), .second, .val (.long k1), .second, .val (.long k2), .second, .val (.long k3), .second, .unset, .unset] [(.long ((k1 &&& q1) &&& q2)), (.int (own_z ((0 : Int64) < (((-va) + vb) + vc)))), (.long ((((own_kp (own_z ((0 : Int64) < ((va + vb) + vc))) ((q0 &&& q1) &&& q2)) ||| (own_kp (own_z ((0 : Int64) < ((va + vb) - vc))) ((q0 &&& q1) &&& k3))) ||| (own_kp (own_z ((0 : Int64) < ((va - vb) + vc))) ((q0 &&& k2) &&& q2))) ||| (own_kp (own_z ((0 : Int64) < ((va - vb) - vc))) ((q0 &&& k2) &&& k3))))])) t
    exact kt
  refine own_callSp X14 hx hZ hown e14 (hw _ (List.mem_of_getElem? (i := 30) rfl)) (hw _ (List.mem_of_getElem? (i := 31) rfl)) (hw _ (List.mem_of_getElem? (i := 32) rfl)) (hw _ (List.mem_of_getElem? (i := 33) rfl)) (by decide) (rm7 l Z aw hw (own_z ((0 : Int64) < (((-va) + vb) + vc))) ((k1 &&& q1) &&& q2) T5.heap n0 ZKq5) (g := (mkF m 220 #[.val (.long q0), .second, .val (.long q1), .second, .val (.long q2), .second, .val (.long q3), .second, .val (.long q4), .second, .val (.long q5), .second, .val (.long va), .second, .val (.long vb), .second, .val (.long vc), .second, .val (.ref b1), .val (.long (own_fp 64 f3)), .second, .val (.long k1), .second, .val (.long k2), .second, .val (.long k3), .second, .unset, .unset] [(.long ((k1 &&& q1) &&& q2)), (.int (own_z ((0 : Int64) < (((-va) + vb) + vc)))), (.long ((((own_kp (own_z ((0 : Int64) < ((va + vb) + vc))) ((q0 &&& q1) &&& q2)) ||| (own_kp (own_z ((0 : Int64) < ((va + vb) - vc))) ((q0 &&& q1) &&& k3))) ||| (own_kp (own_z ((0 : Int64) < ((va - vb) + vc))) ((q0 &&& k2) &&& q2))) ||| (own_kp (own_z ((0 : Int64) < ((va - vb) - vc))) ((q0 &&& k2) &&& k3))))])) rfl (by rw [hml]; rfl) (argsL := [(.int (own_z ((0 : Int64) < (((-va) + vb) + vc)))), (.long ((k1 &&& q1) &&& q2))]) (rest := [(.long ((((own_kp (own_z ((0 : Int64) < ((va + vb) + vc))) ((q0 &&& q1) &&& q2)) ||| (own_kp (own_z ((0 : Int64) < ((va + vb) - vc))) ((q0 &&& q1) &&& k3))) ||| (own_kp (own_z ((0 : Int64) < ((va - vb) + vc))) ((q0 &&& k2) &&& q2))) ||| (own_kp (own_z ((0 : Int64) < ((va - vb) - vc))) ((q0 &&& k2) &&& k3))))]) (lenOf pd_4 rfl) rfl rfl (W := 2) (by show 2 * 0 + _ ≤ _; exact Nat.le_of_eq rfl) (hb hby at_220) (by decide) (by decide) (by decide) (by decide) ?_
  intro T16 X16 e16
  refine own_go (T' := T16) (f' := (mkF m 235 #[.val (.long q0), .second, .val (.long q1), .second, .val (.long q2), .second, .val (.long q3), .second, .val (.long q4), .second, .val (.long q5), .second, .val (.long va), .second, .val (.long vb), .second, .val (.long vc), .second, .val (.ref b1), .val (.long (own_fp 64 f3)), .second, .val (.long k1), .second, .val (.long k2), .second, .val (.long k3), .second, .unset, .unset] [(.int (lcmpW (((-va) + vb) - vc) (0 : Int64))), (.long (((((own_kp (own_z ((0 : Int64) < ((va + vb) + vc))) ((q0 &&& q1) &&& q2)) ||| (own_kp (own_z ((0 : Int64) < ((va + vb) - vc))) ((q0 &&& q1) &&& k3))) ||| (own_kp (own_z ((0 : Int64) < ((va - vb) + vc))) ((q0 &&& k2) &&& q2))) ||| (own_kp (own_z ((0 : Int64) < ((va - vb) - vc))) ((q0 &&& k2) &&& k3))) ||| (own_kp (own_z ((0 : Int64) < (((-va) + vb) + vc))) ((k1 &&& q1) &&& q2))))])) (fun t kt => ?_) ?_
  · show Steps p.tables e below (T16.setTop (mkF m 223 #[.val (.long q0), .second, .val (.long q1), .second, .val (.long q2), .second, .val (.long q3), .second, .val (.long q4), .second, .val (.long q5), .second, .val (.long va), .second, .val (.long vb), .second, .val (.long vc), .second, .val (.ref b1), .val (.long (own_fp 64 f3)), .second, .val (.long k1), .second, .val (.long k2), .second, .val (.long k3), .second, .unset, .unset] [(.long (own_kp (own_z ((0 : Int64) < (((-va) + vb) + vc))) ((k1 &&& q1) &&& q2))), (.long ((((own_kp (own_z ((0 : Int64) < ((va + vb) + vc))) ((q0 &&& q1) &&& q2)) ||| (own_kp (own_z ((0 : Int64) < ((va + vb) - vc))) ((q0 &&& q1) &&& k3))) ||| (own_kp (own_z ((0 : Int64) < ((va - vb) + vc))) ((q0 &&& k2) &&& q2))) ||| (own_kp (own_z ((0 : Int64) < ((va - vb) - vc))) ((q0 &&& k2) &&& k3))))])) t
    refine XS.lor X16.here hx rfl (hb hby at_223) rfl ?_
    show Steps p.tables e below (T16.setTop (mkF m 224 #[.val (.long q0), .second, .val (.long q1), .second, .val (.long q2), .second, .val (.long q3), .second, .val (.long q4), .second, .val (.long q5), .second, .val (.long va), .second, .val (.long vb), .second, .val (.long vc), .second, .val (.ref b1), .val (.long (own_fp 64 f3)), .second, .val (.long k1), .second, .val (.long k2), .second, .val (.long k3), .second, .unset, .unset] [(.long (((((own_kp (own_z ((0 : Int64) < ((va + vb) + vc))) ((q0 &&& q1) &&& q2)) ||| (own_kp (own_z ((0 : Int64) < ((va + vb) - vc))) ((q0 &&& q1) &&& k3))) ||| (own_kp (own_z ((0 : Int64) < ((va - vb) + vc))) ((q0 &&& k2) &&& q2))) ||| (own_kp (own_z ((0 : Int64) < ((va - vb) - vc))) ((q0 &&& k2) &&& k3))) ||| (own_kp (own_z ((0 : Int64) < (((-va) + vb) + vc))) ((k1 &&& q1) &&& q2))))])) t
    refine XS.lload X16.here hx rfl (hb hby at_224) rfl ?_
    show Steps p.tables e below (T16.setTop (mkF m 226 #[.val (.long q0), .second, .val (.long q1), .second, .val (.long q2), .second, .val (.long q3), .second, .val (.long q4), .second, .val (.long q5), .second, .val (.long va), .second, .val (.long vb), .second, .val (.long vc), .second, .val (.ref b1), .val (.long (own_fp 64 f3)), .second, .val (.long k1), .second, .val (.long k2), .second, .val (.long k3), .second, .unset, .unset] [(.long va), (.long (((((own_kp (own_z ((0 : Int64) < ((va + vb) + vc))) ((q0 &&& q1) &&& q2)) ||| (own_kp (own_z ((0 : Int64) < ((va + vb) - vc))) ((q0 &&& q1) &&& k3))) ||| (own_kp (own_z ((0 : Int64) < ((va - vb) + vc))) ((q0 &&& k2) &&& q2))) ||| (own_kp (own_z ((0 : Int64) < ((va - vb) - vc))) ((q0 &&& k2) &&& k3))) ||| (own_kp (own_z ((0 : Int64) < (((-va) + vb) + vc))) ((k1 &&& q1) &&& q2))))])) t
    refine XS.lneg X16.here hx rfl (hb hby at_226) rfl ?_
    show Steps p.tables e below (T16.setTop (mkF m 227 #[.val (.long q0), .second, .val (.long q1), .second, .val (.long q2), .second, .val (.long q3), .second, .val (.long q4), .second, .val (.long q5), .second, .val (.long va), .second, .val (.long vb), .second, .val (.long vc), .second, .val (.ref b1), .val (.long (own_fp 64 f3)), .second, .val (.long k1), .second, .val (.long k2), .second, .val (.long k3), .second, .unset, .unset] [(.long (-va)), (.long (((((own_kp (own_z ((0 : Int64) < ((va + vb) + vc))) ((q0 &&& q1) &&& q2)) ||| (own_kp (own_z ((0 : Int64) < ((va + vb) - vc))) ((q0 &&& q1) &&& k3))) ||| (own_kp (own_z ((0 : Int64) < ((va - vb) + vc))) ((q0 &&& k2) &&& q2))) ||| (own_kp (own_z ((0 : Int64) < ((va - vb) - vc))) ((q0 &&& k2) &&& k3))) ||| (own_kp (own_z ((0 : Int64) < (((-va) + vb) + vc))) ((k1 &&& q1) &&& q2))))])) t
    refine XS.lload X16.here hx rfl (hb hby at_227) rfl ?_
    show Steps p.tables e below (T16.setTop (mkF m 229 #[.val (.long q0), .second, .val (.long q1), .second, .val (.long q2), .second, .val (.long q3), .second, .val (.long q4), .second, .val (.long q5), .second, .val (.long va), .second, .val (.long vb), .second, .val (.long vc), .second, .val (.ref b1), .val (.long (own_fp 64 f3)), .second, .val (.long k1), .second, .val (.long k2), .second, .val (.long k3), .second, .unset, .unset] [(.long vb), (.long (-va)), (.long (((((own_kp (own_z ((0 : Int64) < ((va + vb) + vc))) ((q0 &&& q1) &&& q2)) ||| (own_kp (own_z ((0 : Int64) < ((va + vb) - vc))) ((q0 &&& q1) &&& k3))) ||| (own_kp (own_z ((0 : Int64) < ((va - vb) + vc))) ((q0 &&& k2) &&& q2))) ||| (own_kp (own_z ((0 : Int64) < ((va - vb) - vc))) ((q0 &&& k2) &&& k3))) ||| (own_kp (own_z ((0 : Int64) < (((-va) + vb) + vc))) ((k1 &&& q1) &&& q2))))])) t
    refine XS.ladd X16.here hx rfl (hb hby at_229) rfl ?_
    show Steps p.tables e below (T16.setTop (mkF m 230 #[.val (.long q0), .second, .val (.long q1), .second, .val (.long q2), .second, .val (.long q3), .second, .val (.long q4), .second, .val (.long q5), .second, .val (.long va), .second, .val (.long vb), .second, .val (.long vc), .second, .val (.ref b1), .val (.long (own_fp 64 f3)), .second, .val (.long k1), .second, .val (.long k2), .second, .val (.long k3), .second, .unset, .unset] [(.long ((-va) + vb)), (.long (((((own_kp (own_z ((0 : Int64) < ((va + vb) + vc))) ((q0 &&& q1) &&& q2)) ||| (own_kp (own_z ((0 : Int64) < ((va + vb) - vc))) ((q0 &&& q1) &&& k3))) ||| (own_kp (own_z ((0 : Int64) < ((va - vb) + vc))) ((q0 &&& k2) &&& q2))) ||| (own_kp (own_z ((0 : Int64) < ((va - vb) - vc))) ((q0 &&& k2) &&& k3))) ||| (own_kp (own_z ((0 : Int64) < (((-va) + vb) + vc))) ((k1 &&& q1) &&& q2))))])) t
    refine XS.lload X16.here hx rfl (hb hby at_230) rfl ?_
    show Steps p.tables e below (T16.setTop (mkF m 232 #[.val (.long q0), .second, .val (.long q1), .second, .val (.long q2), .second, .val (.long q3), .second, .val (.long q4), .second, .val (.long q5), .second, .val (.long va), .second, .val (.long vb), .second, .val (.long vc), .second, .val (.ref b1), .val (.long (own_fp 64 f3)), .second, .val (.long k1), .second, .val (.long k2), .second, .val (.long k3), .second, .unset, .unset] [(.long vc), (.long ((-va) + vb)), (.long (((((own_kp (own_z ((0 : Int64) < ((va + vb) + vc))) ((q0 &&& q1) &&& q2)) ||| (own_kp (own_z ((0 : Int64) < ((va + vb) - vc))) ((q0 &&& q1) &&& k3))) ||| (own_kp (own_z ((0 : Int64) < ((va - vb) + vc))) ((q0 &&& k2) &&& q2))) ||| (own_kp (own_z ((0 : Int64) < ((va - vb) - vc))) ((q0 &&& k2) &&& k3))) ||| (own_kp (own_z ((0 : Int64) < (((-va) + vb) + vc))) ((k1 &&& q1) &&& q2))))])) t
    refine XS.lsub X16.here hx rfl (hb hby at_232) rfl ?_
    show Steps p.tables e below (T16.setTop (mkF m 233 #[.val (.long q0), .second, .val (.long q1), .second, .val (.long q2), .second, .val (.long q3), .second, .val (.long q4), .second, .val (.long q5), .second, .val (.long va), .second, .val (.long vb), .second, .val (.long vc), .second, .val (.ref b1), .val (.long (own_fp 64 f3)), .second, .val (.long k1), .second, .val (.long k2), .second, .val (.long k3), .second, .unset, .unset] [(.long (((-va) + vb) - vc)), (.long (((((own_kp (own_z ((0 : Int64) < ((va + vb) + vc))) ((q0 &&& q1) &&& q2)) ||| (own_kp (own_z ((0 : Int64) < ((va + vb) - vc))) ((q0 &&& q1) &&& k3))) ||| (own_kp (own_z ((0 : Int64) < ((va - vb) + vc))) ((q0 &&& k2) &&& q2))) ||| (own_kp (own_z ((0 : Int64) < ((va - vb) - vc))) ((q0 &&& k2) &&& k3))) ||| (own_kp (own_z ((0 : Int64) < (((-va) + vb) + vc))) ((k1 &&& q1) &&& q2))))])) t
    refine XS.lconst X16.here hx rfl (hb hby at_233) ?_
    show Steps p.tables e below (T16.setTop (mkF m 234 #[.val (.long q0), .second, .val (.long q1), .second, .val (.long q2), .second, .val (.long q3), .second, .val (.long q4), .second, .val (.long q5), .second, .val (.long va), .second, .val (.long vb), .second, .val (.long vc), .second, .val (.ref b1), .val (.long (own_fp 64 f3)), .second, .val (.long k1), .second, .val (.long k2), .second, .val (.long k3), .second, .unset, .unset] [(.long (0 : Int64)), (.long (((-va) + vb) - vc)), (.long (((((own_kp (own_z ((0 : Int64) < ((va + vb) + vc))) ((q0 &&& q1) &&& q2)) ||| (own_kp (own_z ((0 : Int64) < ((va + vb) - vc))) ((q0 &&& q1) &&& k3))) ||| (own_kp (own_z ((0 : Int64) < ((va - vb) + vc))) ((q0 &&& k2) &&& q2))) ||| (own_kp (own_z ((0 : Int64) < ((va - vb) - vc))) ((q0 &&& k2) &&& k3))) ||| (own_kp (own_z ((0 : Int64) < (((-va) + vb) + vc))) ((k1 &&& q1) &&& q2))))])) t
    refine XS.lcmp X16.here hx rfl (hb hby at_234) rfl ?_
    show Steps p.tables e below (T16.setTop (mkF m 235 #[.val (.long q0), .second, .val (.long q1), .second, .val (.long q2), .second, .val (.long q3), .second, .val (.long q4), .second, .val (.long q5), .second, .val (.long va), .second, .val (.long vb), .second, .val (.long vc), .second, .val (.ref b1), .val (.long (own_fp 64 f3)), .second, .val (.long k1), .second, .val (.long k2), .second, .val (.long k3), .second, .unset, .unset] [(.int (lcmpW (((-va) + vb) - vc) (0 : Int64))), (.long (((((own_kp (own_z ((0 : Int64) < ((va + vb) + vc))) ((q0 &&& q1) &&& q2)) ||| (own_kp (own_z ((0 : Int64) < ((va + vb) - vc))) ((q0 &&& q1) &&& k3))) ||| (own_kp (own_z ((0 : Int64) < ((va - vb) + vc))) ((q0 &&& k2) &&& q2))) ||| (own_kp (own_z ((0 : Int64) < ((va - vb) - vc))) ((q0 &&& k2) &&& k3))) ||| (own_kp (own_z ((0 : Int64) < (((-va) + vb) + vc))) ((k1 &&& q1) &&& q2))))])) t
    exact kt
  refine own_go (T' := T16) (f' := (mkF m 243 #[.val (.long q0), .second, .val (.long q1), .second, .val (.long q2), .second, .val (.long q3), .second, .val (.long q4), .second, .val (.long q5), .second, .val (.long va), .second, .val (.long vb), .second, .val (.long vc), .second, .val (.ref b1), .val (.long (own_fp 64 f3)), .second, .val (.long k1), .second, .val (.long k2), .second, .val (.long k3), .second, .unset, .unset] [(.int (own_z ((0 : Int64) < (((-va) + vb) - vc)))), (.long (((((own_kp (own_z ((0 : Int64) < ((va + vb) + vc))) ((q0 &&& q1) &&& q2)) ||| (own_kp (own_z ((0 : Int64) < ((va + vb) - vc))) ((q0 &&& q1) &&& k3))) ||| (own_kp (own_z ((0 : Int64) < ((va - vb) + vc))) ((q0 &&& k2) &&& q2))) ||| (own_kp (own_z ((0 : Int64) < ((va - vb) - vc))) ((q0 &&& k2) &&& k3))) ||| (own_kp (own_z ((0 : Int64) < (((-va) + vb) + vc))) ((k1 &&& q1) &&& q2))))])) (fun t kt => ?_) ?_
  · by_cases hc235_17 : (0 : Int64) < (((-va) + vb) - vc)
    · show Steps p.tables e below (T16.setTop (mkF m 235 #[.val (.long q0), .second, .val (.long q1), .second, .val (.long q2), .second, .val (.long q3), .second, .val (.long q4), .second, .val (.long q5), .second, .val (.long va), .second, .val (.long vb), .second, .val (.long vc), .second, .val (.ref b1), .val (.long (own_fp 64 f3)), .second, .val (.long k1), .second, .val (.long k2), .second, .val (.long k3), .second, .unset, .unset] [(.int (lcmpW (((-va) + vb) - vc) (0 : Int64))), (.long (((((own_kp (own_z ((0 : Int64) < ((va + vb) + vc))) ((q0 &&& q1) &&& q2)) ||| (own_kp (own_z ((0 : Int64) < ((va + vb) - vc))) ((q0 &&& q1) &&& k3))) ||| (own_kp (own_z ((0 : Int64) < ((va - vb) + vc))) ((q0 &&& k2) &&& q2))) ||| (own_kp (own_z ((0 : Int64) < ((va - vb) - vc))) ((q0 &&& k2) &&& k3))) ||| (own_kp (own_z ((0 : Int64) < (((-va) + vb) + vc))) ((k1 &&& q1) &&& q2))))])) t
      refine XS.ifNo X16.here hx rfl (hb hby at_235) rfl (own_lN_le hc235_17) ?_
      show Steps p.tables e below (T16.setTop (mkF m 238 #[.val (.long q0), .second, .val (.long q1), .second, .val (.long q2), .second, .val (.long q3), .second, .val (.long q4), .second, .val (.long q5), .second, .val (.long va), .second, .val (.long vb), .second, .val (.long vc), .second, .val (.ref b1), .val (.long (own_fp 64 f3)), .second, .val (.long k1), .second, .val (.long k2), .second, .val (.long k3), .second, .unset, .unset] [(.long (((((own_kp (own_z ((0 : Int64) < ((va + vb) + vc))) ((q0 &&& q1) &&& q2)) ||| (own_kp (own_z ((0 : Int64) < ((va + vb) - vc))) ((q0 &&& q1) &&& k3))) ||| (own_kp (own_z ((0 : Int64) < ((va - vb) + vc))) ((q0 &&& k2) &&& q2))) ||| (own_kp (own_z ((0 : Int64) < ((va - vb) - vc))) ((q0 &&& k2) &&& k3))) ||| (own_kp (own_z ((0 : Int64) < (((-va) + vb) + vc))) ((k1 &&& q1) &&& q2))))])) t
      refine XS.iconst X16.here hx rfl (hb hby at_238) ?_
      show Steps p.tables e below (T16.setTop (mkF m 239 #[.val (.long q0), .second, .val (.long q1), .second, .val (.long q2), .second, .val (.long q3), .second, .val (.long q4), .second, .val (.long q5), .second, .val (.long va), .second, .val (.long vb), .second, .val (.long vc), .second, .val (.ref b1), .val (.long (own_fp 64 f3)), .second, .val (.long k1), .second, .val (.long k2), .second, .val (.long k3), .second, .unset, .unset] [(.int (1 : Int32)), (.long (((((own_kp (own_z ((0 : Int64) < ((va + vb) + vc))) ((q0 &&& q1) &&& q2)) ||| (own_kp (own_z ((0 : Int64) < ((va + vb) - vc))) ((q0 &&& q1) &&& k3))) ||| (own_kp (own_z ((0 : Int64) < ((va - vb) + vc))) ((q0 &&& k2) &&& q2))) ||| (own_kp (own_z ((0 : Int64) < ((va - vb) - vc))) ((q0 &&& k2) &&& k3))) ||| (own_kp (own_z ((0 : Int64) < (((-va) + vb) + vc))) ((k1 &&& q1) &&& q2))))])) t
      refine XS.goto X16.here hx rfl (pc0 := 239) (pc' := 243) rfl (hb hby at_239) (by decide) (by decide) ?_
      show Steps p.tables e below (T16.setTop (mkF m 243 #[.val (.long q0), .second, .val (.long q1), .second, .val (.long q2), .second, .val (.long q3), .second, .val (.long q4), .second, .val (.long q5), .second, .val (.long va), .second, .val (.long vb), .second, .val (.long vc), .second, .val (.ref b1), .val (.long (own_fp 64 f3)), .second, .val (.long k1), .second, .val (.long k2), .second, .val (.long k3), .second, .unset, .unset] [(.int (1 : Int32)), (.long (((((own_kp (own_z ((0 : Int64) < ((va + vb) + vc))) ((q0 &&& q1) &&& q2)) ||| (own_kp (own_z ((0 : Int64) < ((va + vb) - vc))) ((q0 &&& q1) &&& k3))) ||| (own_kp (own_z ((0 : Int64) < ((va - vb) + vc))) ((q0 &&& k2) &&& q2))) ||| (own_kp (own_z ((0 : Int64) < ((va - vb) - vc))) ((q0 &&& k2) &&& k3))) ||| (own_kp (own_z ((0 : Int64) < (((-va) + vb) + vc))) ((k1 &&& q1) &&& q2))))])) t
      rw [own_z_t hc235_17] at kt
      exact kt
    · show Steps p.tables e below (T16.setTop (mkF m 235 #[.val (.long q0), .second, .val (.long q1), .second, .val (.long q2), .second, .val (.long q3), .second, .val (.long q4), .second, .val (.long q5), .second, .val (.long va), .second, .val (.long vb), .second, .val (.long vc), .second, .val (.ref b1), .val (.long (own_fp 64 f3)), .second, .val (.long k1), .second, .val (.long k2), .second, .val (.long k3), .second, .unset, .unset] [(.int (lcmpW (((-va) + vb) - vc) (0 : Int64))), (.long (((((own_kp (own_z ((0 : Int64) < ((va + vb) + vc))) ((q0 &&& q1) &&& q2)) ||| (own_kp (own_z ((0 : Int64) < ((va + vb) - vc))) ((q0 &&& q1) &&& k3))) ||| (own_kp (own_z ((0 : Int64) < ((va - vb) + vc))) ((q0 &&& k2) &&& q2))) ||| (own_kp (own_z ((0 : Int64) < ((va - vb) - vc))) ((q0 &&& k2) &&& k3))) ||| (own_kp (own_z ((0 : Int64) < (((-va) + vb) + vc))) ((k1 &&& q1) &&& q2))))])) t
      refine XS.ifYes X16.here hx rfl (pc0 := 235) (pc' := 242) rfl (hb hby at_235) rfl (own_lY_le hc235_17) (by decide) (by decide) ?_
      show Steps p.tables e below (T16.setTop (mkF m 242 #[.val (.long q0), .second, .val (.long q1), .second, .val (.long q2), .second, .val (.long q3), .second, .val (.long q4), .second, .val (.long q5), .second, .val (.long va), .second, .val (.long vb), .second, .val (.long vc), .second, .val (.ref b1), .val (.long (own_fp 64 f3)), .second, .val (.long k1), .second, .val (.long k2), .second, .val (.long k3), .second, .unset, .unset] [(.long (((((own_kp (own_z ((0 : Int64) < ((va + vb) + vc))) ((q0 &&& q1) &&& q2)) ||| (own_kp (own_z ((0 : Int64) < ((va + vb) - vc))) ((q0 &&& q1) &&& k3))) ||| (own_kp (own_z ((0 : Int64) < ((va - vb) + vc))) ((q0 &&& k2) &&& q2))) ||| (own_kp (own_z ((0 : Int64) < ((va - vb) - vc))) ((q0 &&& k2) &&& k3))) ||| (own_kp (own_z ((0 : Int64) < (((-va) + vb) + vc))) ((k1 &&& q1) &&& q2))))])) t
      refine XS.iconst X16.here hx rfl (hb hby at_242) ?_
      show Steps p.tables e below (T16.setTop (mkF m 243 #[.val (.long q0), .second, .val (.long q1), .second, .val (.long q2), .second, .val (.long q3), .second, .val (.long q4), .second, .val (.long q5), .second, .val (.long va), .second, .val (.long vb), .second, .val (.long vc), .second, .val (.ref b1), .val (.long (own_fp 64 f3)), .second, .val (.long k1), .second, .val (.long k2), .second, .val (.long k3), .second, .unset, .unset] [(.int (0 : Int32)), (.long (((((own_kp (own_z ((0 : Int64) < ((va + vb) + vc))) ((q0 &&& q1) &&& q2)) ||| (own_kp (own_z ((0 : Int64) < ((va + vb) - vc))) ((q0 &&& q1) &&& k3))) ||| (own_kp (own_z ((0 : Int64) < ((va - vb) + vc))) ((q0 &&& k2) &&& q2))) ||| (own_kp (own_z ((0 : Int64) < ((va - vb) - vc))) ((q0 &&& k2) &&& k3))) ||| (own_kp (own_z ((0 : Int64) < (((-va) + vb) + vc))) ((k1 &&& q1) &&& q2))))])) t
      rw [own_z_f hc235_17] at kt
      exact kt
  refine own_go (T' := T16) (f' := (mkF m 250 #[.val (.long q0), .second, .val (.long q1), .second, .val (.long q2), .second, .val (.long q3), .second, .val (.long q4), .second, .val (.long q5), .second, .val (.long va), .second, .val (.long vb), .second, .val (.long vc), .second, .val (.ref b1), .val (.long (own_fp 64 f3)), .second, .val (.long k1), .second, .val (.long k2), .second, .val (.long k3), .second, .unset, .unset] [(.long ((k1 &&& q1) &&& k3)), (.int (own_z ((0 : Int64) < (((-va) + vb) - vc)))), (.long (((((own_kp (own_z ((0 : Int64) < ((va + vb) + vc))) ((q0 &&& q1) &&& q2)) ||| (own_kp (own_z ((0 : Int64) < ((va + vb) - vc))) ((q0 &&& q1) &&& k3))) ||| (own_kp (own_z ((0 : Int64) < ((va - vb) + vc))) ((q0 &&& k2) &&& q2))) ||| (own_kp (own_z ((0 : Int64) < ((va - vb) - vc))) ((q0 &&& k2) &&& k3))) ||| (own_kp (own_z ((0 : Int64) < (((-va) + vb) + vc))) ((k1 &&& q1) &&& q2))))])) (fun t kt => ?_) ?_
  · show Steps p.tables e below (T16.setTop (mkF m 243 #[.val (.long q0), .second, .val (.long q1), .second, .val (.long q2), .second, .val (.long q3), .second, .val (.long q4), .second, .val (.long q5), .second, .val (.long va), .second, .val (.long vb), .second, .val (.long vc), .second, .val (.ref b1), .val (.long (own_fp 64 f3)), .second, .val (.long k1), .second, .val (.long k2), .second, .val (.long k3), .second, .unset, .unset] [(.int (own_z ((0 : Int64) < (((-va) + vb) - vc)))), (.long (((((own_kp (own_z ((0 : Int64) < ((va + vb) + vc))) ((q0 &&& q1) &&& q2)) ||| (own_kp (own_z ((0 : Int64) < ((va + vb) - vc))) ((q0 &&& q1) &&& k3))) ||| (own_kp (own_z ((0 : Int64) < ((va - vb) + vc))) ((q0 &&& k2) &&& q2))) ||| (own_kp (own_z ((0 : Int64) < ((va - vb) - vc))) ((q0 &&& k2) &&& k3))) ||| (own_kp (own_z ((0 : Int64) < (((-va) + vb) + vc))) ((k1 &&& q1) &&& q2))))])) t
    refine XS.lload X16.here hx rfl (hb hby at_243) rfl ?_
    show Steps p.tables e below (T16.setTop (mkF m 245 #[.val (.long q0), .second, .val (.long q1), .second, .val (.long q2), .second, .val (.long q3), .second, .val (.long q4), .second, .val (.long q5), .second, .val (.long va), .second, .val (.long vb), .second, .val (.long vc), .second, .val (.ref b1), .val (.long (own_fp 64 f3)), .second, .val (.long k1), .second, .val (.long k2), .second, .val (.long k3), .second, .unset, .unset] [(.long k1), (.int (own_z ((0 : Int64) < (((-va) + vb) - vc)))), (.long (((((own_kp (own_z ((0 : Int64) < ((va + vb) + vc))) ((q0 &&& q1) &&& q2)) ||| (own_kp (own_z ((0 : Int64) < ((va + vb) - vc))) ((q0 &&& q1) &&& k3))) ||| (own_kp (own_z ((0 : Int64) < ((va - vb) + vc))) ((q0 &&& k2) &&& q2))) ||| (own_kp (own_z ((0 : Int64) < ((va - vb) - vc))) ((q0 &&& k2) &&& k3))) ||| (own_kp (own_z ((0 : Int64) < (((-va) + vb) + vc))) ((k1 &&& q1) &&& q2))))])) t
    refine XS.lloadN X16.here hx rfl (hb hby at_245) rfl ?_
    show Steps p.tables e below (T16.setTop (mkF m 246 #[.val (.long q0), .second, .val (.long q1), .second, .val (.long q2), .second, .val (.long q3), .second, .val (.long q4), .second, .val (.long q5), .second, .val (.long va), .second, .val (.long vb), .second, .val (.long vc), .second, .val (.ref b1), .val (.long (own_fp 64 f3)), .second, .val (.long k1), .second, .val (.long k2), .second, .val (.long k3), .second, .unset, .unset] [(.long q1), (.long k1), (.int (own_z ((0 : Int64) < (((-va) + vb) - vc)))), (.long (((((own_kp (own_z ((0 : Int64) < ((va + vb) + vc))) ((q0 &&& q1) &&& q2)) ||| (own_kp (own_z ((0 : Int64) < ((va + vb) - vc))) ((q0 &&& q1) &&& k3))) ||| (own_kp (own_z ((0 : Int64) < ((va - vb) + vc))) ((q0 &&& k2) &&& q2))) ||| (own_kp (own_z ((0 : Int64) < ((va - vb) - vc))) ((q0 &&& k2) &&& k3))) ||| (own_kp (own_z ((0 : Int64) < (((-va) + vb) + vc))) ((k1 &&& q1) &&& q2))))])) t
    refine XS.land X16.here hx rfl (hb hby at_246) rfl ?_
    show Steps p.tables e below (T16.setTop (mkF m 247 #[.val (.long q0), .second, .val (.long q1), .second, .val (.long q2), .second, .val (.long q3), .second, .val (.long q4), .second, .val (.long q5), .second, .val (.long va), .second, .val (.long vb), .second, .val (.long vc), .second, .val (.ref b1), .val (.long (own_fp 64 f3)), .second, .val (.long k1), .second, .val (.long k2), .second, .val (.long k3), .second, .unset, .unset] [(.long (k1 &&& q1)), (.int (own_z ((0 : Int64) < (((-va) + vb) - vc)))), (.long (((((own_kp (own_z ((0 : Int64) < ((va + vb) + vc))) ((q0 &&& q1) &&& q2)) ||| (own_kp (own_z ((0 : Int64) < ((va + vb) - vc))) ((q0 &&& q1) &&& k3))) ||| (own_kp (own_z ((0 : Int64) < ((va - vb) + vc))) ((q0 &&& k2) &&& q2))) ||| (own_kp (own_z ((0 : Int64) < ((va - vb) - vc))) ((q0 &&& k2) &&& k3))) ||| (own_kp (own_z ((0 : Int64) < (((-va) + vb) + vc))) ((k1 &&& q1) &&& q2))))])) t
    refine XS.lload X16.here hx rfl (hb hby at_247) rfl ?_
    show Steps p.tables e below (T16.setTop (mkF m 249 #[.val (.long q0), .second, .val (.long q1), .second, .val (.long q2), .second, .val (.long q3), .second, .val (.long q4), .second, .val (.long q5), .second, .val (.long va), .second, .val (.long vb), .second, .val (.long vc), .second, .val (.ref b1), .val (.long (own_fp 64 f3)), .second, .val (.long k1), .second, .val (.long k2), .second, .val (.long k3), .second, .unset, .unset] [(.long k3), (.long (k1 &&& q1)), (.int (own_z ((0 : Int64) < (((-va) + vb) - vc)))), (.long (((((own_kp (own_z ((0 : Int64) < ((va + vb) + vc))) ((q0 &&& q1) &&& q2)) ||| (own_kp (own_z ((0 : Int64) < ((va + vb) - vc))) ((q0 &&& q1) &&& k3))) ||| (own_kp (own_z ((0 : Int64) < ((va - vb) + vc))) ((q0 &&& k2) &&& q2))) ||| (own_kp (own_z ((0 : Int64) < ((va - vb) - vc))) ((q0 &&& k2) &&& k3))) ||| (own_kp (own_z ((0 : Int64) < (((-va) + vb) + vc))) ((k1 &&& q1) &&& q2))))])) t
    refine XS.land X16.here hx rfl (hb hby at_249) rfl ?_
    show Steps p.tables e below (T16.setTop (mkF m 250 #[.val (.long q0), .second, .val (.long q1), .second, .val (.long q2), .second, .val (.long q3), .second, .val (.long q4), .second, .val (.long q5), .second, .val (.long va), .second, .val (.long vb), .second, .val (.long vc), .second, .val (.ref b1), .val (.long (own_fp 64 f3)), .second, .val (.long k1), .second, .val (.long k2), .second, .val (.long k3), .second, .unset, .unset] [(.long ((k1 &&& q1) &&& k3)), (.int (own_z ((0 : Int64) < (((-va) + vb) - vc)))), (.long (((((own_kp (own_z ((0 : Int64) < ((va + vb) + vc))) ((q0 &&& q1) &&& q2)) ||| (own_kp (own_z ((0 : Int64) < ((va + vb) - vc))) ((q0 &&& q1) &&& k3))) ||| (own_kp (own_z ((0 : Int64) < ((va - vb) + vc))) ((q0 &&& k2) &&& q2))) ||| (own_kp (own_z ((0 : Int64) < ((va - vb) - vc))) ((q0 &&& k2) &&& k3))) ||| (own_kp (own_z ((0 : Int64) < (((-va) + vb) + vc))) ((k1 &&& q1) &&& q2))))])) t
    exact kt
  refine own_callSp X16 hx hZ hown e16 (hw _ (List.mem_of_getElem? (i := 30) rfl)) (hw _ (List.mem_of_getElem? (i := 31) rfl)) (hw _ (List.mem_of_getElem? (i := 32) rfl)) (hw _ (List.mem_of_getElem? (i := 33) rfl)) (by decide) (rm7 l Z aw hw (own_z ((0 : Int64) < (((-va) + vb) - vc))) ((k1 &&& q1) &&& k3) T5.heap n0 ZKq5) (g := (mkF m 250 #[.val (.long q0), .second, .val (.long q1), .second, .val (.long q2), .second, .val (.long q3), .second, .val (.long q4), .second, .val (.long q5), .second, .val (.long va), .second, .val (.long vb), .second, .val (.long vc), .second, .val (.ref b1), .val (.long (own_fp 64 f3)), .second, .val (.long k1), .second, .val (.long k2), .second, .val (.long k3), .second, .unset, .unset] [(.long ((k1 &&& q1) &&& k3)), (.int (own_z ((0 : Int64) < (((-va) + vb) - vc)))), (.long (((((own_kp (own_z ((0 : Int64) < ((va + vb) + vc))) ((q0 &&& q1) &&& q2)) ||| (own_kp (own_z ((0 : Int64) < ((va + vb) - vc))) ((q0 &&& q1) &&& k3))) ||| (own_kp (own_z ((0 : Int64) < ((va - vb) + vc))) ((q0 &&& k2) &&& q2))) ||| (own_kp (own_z ((0 : Int64) < ((va - vb) - vc))) ((q0 &&& k2) &&& k3))) ||| (own_kp (own_z ((0 : Int64) < (((-va) + vb) + vc))) ((k1 &&& q1) &&& q2))))])) rfl (by rw [hml]; rfl) (argsL := [(.int (own_z ((0 : Int64) < (((-va) + vb) - vc)))), (.long ((k1 &&& q1) &&& k3))]) (rest := [(.long (((((own_kp (own_z ((0 : Int64) < ((va + vb) + vc))) ((q0 &&& q1) &&& q2)) ||| (own_kp (own_z ((0 : Int64) < ((va + vb) - vc))) ((q0 &&& q1) &&& k3))) ||| (own_kp (own_z ((0 : Int64) < ((va - vb) + vc))) ((q0 &&& k2) &&& q2))) ||| (own_kp (own_z ((0 : Int64) < ((va - vb) - vc))) ((q0 &&& k2) &&& k3))) ||| (own_kp (own_z ((0 : Int64) < (((-va) + vb) + vc))) ((k1 &&& q1) &&& q2))))]) (lenOf pd_4 rfl) rfl rfl (W := 2) (by show 2 * 0 + _ ≤ _; exact Nat.le_of_eq rfl) (hb hby at_250) (by decide) (by decide) (by decide) (by decide) ?_
  intro T18 X18 e18
  refine own_go (T' := T18) (f' := (mkF m 265 #[.val (.long q0), .second, .val (.long q1), .second, .val (.long q2), .second, .val (.long q3), .second, .val (.long q4), .second, .val (.long q5), .second, .val (.long va), .second, .val (.long vb), .second, .val (.long vc), .second, .val (.ref b1), .val (.long (own_fp 64 f3)), .second, .val (.long k1), .second, .val (.long k2), .second, .val (.long k3), .second, .unset, .unset] [(.int (lcmpW (((-va) - vb) + vc) (0 : Int64))), (.long ((((((own_kp (own_z ((0 : Int64) < ((va + vb) + vc))) ((q0 &&& q1) &&& q2)) ||| (own_kp (own_z ((0 : Int64) < ((va + vb) - vc))) ((q0 &&& q1) &&& k3))) ||| (own_kp (own_z ((0 : Int64) < ((va - vb) + vc))) ((q0 &&& k2) &&& q2))) ||| (own_kp (own_z ((0 : Int64) < ((va - vb) - vc))) ((q0 &&& k2) &&& k3))) ||| (own_kp (own_z ((0 : Int64) < (((-va) + vb) + vc))) ((k1 &&& q1) &&& q2))) ||| (own_kp (own_z ((0 : Int64) < (((-va) + vb) - vc))) ((k1 &&& q1) &&& k3))))])) (fun t kt => ?_) ?_
  · show Steps p.tables e below (T18.setTop (mkF m 253 #[.val (.long q0), .second, .val (.long q1), .second, .val (.long q2), .second, .val (.long q3), .second, .val (.long q4), .second, .val (.long q5), .second, .val (.long va), .second, .val (.long vb), .second, .val (.long vc), .second, .val (.ref b1), .val (.long (own_fp 64 f3)), .second, .val (.long k1), .second, .val (.long k2), .second, .val (.long k3), .second, .unset, .unset] [(.long (own_kp (own_z ((0 : Int64) < (((-va) + vb) - vc))) ((k1 &&& q1) &&& k3))), (.long (((((own_kp (own_z ((0 : Int64) < ((va + vb) + vc))) ((q0 &&& q1) &&& q2)) ||| (own_kp (own_z ((0 : Int64) < ((va + vb) - vc))) ((q0 &&& q1) &&& k3))) ||| (own_kp (own_z ((0 : Int64) < ((va - vb) + vc))) ((q0 &&& k2) &&& q2))) ||| (own_kp (own_z ((0 : Int64) < ((va - vb) - vc))) ((q0 &&& k2) &&& k3))) ||| (own_kp (own_z ((0 : Int64) < (((-va) + vb) + vc))) ((k1 &&& q1) &&& q2))))])) t
    refine XS.lor X18.here hx rfl (hb hby at_253) rfl ?_
    show Steps p.tables e below (T18.setTop (mkF m 254 #[.val (.long q0), .second, .val (.long q1), .second, .val (.long q2), .second, .val (.long q3), .second, .val (.long q4), .second, .val (.long q5), .second, .val (.long va), .second, .val (.long vb), .second, .val (.long vc), .second, .val (.ref b1), .val (.long (own_fp 64 f3)), .second, .val (.long k1), .second, .val (.long k2), .second, .val (.long k3), .second, .unset, .unset] [(.long ((((((own_kp (own_z ((0 : Int64) < ((va + vb) + vc))) ((q0 &&& q1) &&& q2)) ||| (own_kp (own_z ((0 : Int64) < ((va + vb) - vc))) ((q0 &&& q1) &&& k3))) ||| (own_kp (own_z ((0 : Int64) < ((va - vb) + vc))) ((q0 &&& k2) &&& q2))) ||| (own_kp (own_z ((0 : Int64) < ((va - vb) - vc))) ((q0 &&& k2) &&& k3))) ||| (own_kp (own_z ((0 : Int64) < (((-va) + vb) + vc))) ((k1 &&& q1) &&& q2))) ||| (own_kp (own_z ((0 : Int64) < (((-va) + vb) - vc))) ((k1 &&& q1) &&& k3))))])) t
    refine XS.lload X18.here hx rfl (hb hby at_254) rfl ?_
    show Steps p.tables e below (T18.setTop (mkF m 256 #[.val (.long q0), .second, .val (.long q1), .second, .val (.long q2), .second, .val (.long q3), .second, .val (.long q4), .second, .val (.long q5), .second, .val (.long va), .second, .val (.long vb), .second, .val (.long vc), .second, .val (.ref b1), .val (.long (own_fp 64 f3)), .second, .val (.long k1), .second, .val (.long k2), .second, .val (.long k3), .second, .unset, .unset] [(.long va), (.long ((((((own_kp (own_z ((0 : Int64) < ((va + vb) + vc))) ((q0 &&& q1) &&& q2)) ||| (own_kp (own_z ((0 : Int64) < ((va + vb) - vc))) ((q0 &&& q1) &&& k3))) ||| (own_kp (own_z ((0 : Int64) < ((va - vb) + vc))) ((q0 &&& k2) &&& q2))) ||| (own_kp (own_z ((0 : Int64) < ((va - vb) - vc))) ((q0 &&& k2) &&& k3))) ||| (own_kp (own_z ((0 : Int64) < (((-va) + vb) + vc))) ((k1 &&& q1) &&& q2))) ||| (own_kp (own_z ((0 : Int64) < (((-va) + vb) - vc))) ((k1 &&& q1) &&& k3))))])) t
    refine XS.lneg X18.here hx rfl (hb hby at_256) rfl ?_
    show Steps p.tables e below (T18.setTop (mkF m 257 #[.val (.long q0), .second, .val (.long q1), .second, .val (.long q2), .second, .val (.long q3), .second, .val (.long q4), .second, .val (.long q5), .second, .val (.long va), .second, .val (.long vb), .second, .val (.long vc), .second, .val (.ref b1), .val (.long (own_fp 64 f3)), .second, .val (.long k1), .second, .val (.long k2), .second, .val (.long k3), .second, .unset, .unset] [(.long (-va)), (.long ((((((own_kp (own_z ((0 : Int64) < ((va + vb) + vc))) ((q0 &&& q1) &&& q2)) ||| (own_kp (own_z ((0 : Int64) < ((va + vb) - vc))) ((q0 &&& q1) &&& k3))) ||| (own_kp (own_z ((0 : Int64) < ((va - vb) + vc))) ((q0 &&& k2) &&& q2))) ||| (own_kp (own_z ((0 : Int64) < ((va - vb) - vc))) ((q0 &&& k2) &&& k3))) ||| (own_kp (own_z ((0 : Int64) < (((-va) + vb) + vc))) ((k1 &&& q1) &&& q2))) ||| (own_kp (own_z ((0 : Int64) < (((-va) + vb) - vc))) ((k1 &&& q1) &&& k3))))])) t
    refine XS.lload X18.here hx rfl (hb hby at_257) rfl ?_
    show Steps p.tables e below (T18.setTop (mkF m 259 #[.val (.long q0), .second, .val (.long q1), .second, .val (.long q2), .second, .val (.long q3), .second, .val (.long q4), .second, .val (.long q5), .second, .val (.long va), .second, .val (.long vb), .second, .val (.long vc), .second, .val (.ref b1), .val (.long (own_fp 64 f3)), .second, .val (.long k1), .second, .val (.long k2), .second, .val (.long k3), .second, .unset, .unset] [(.long vb), (.long (-va)), (.long ((((((own_kp (own_z ((0 : Int64) < ((va + vb) + vc))) ((q0 &&& q1) &&& q2)) ||| (own_kp (own_z ((0 : Int64) < ((va + vb) - vc))) ((q0 &&& q1) &&& k3))) ||| (own_kp (own_z ((0 : Int64) < ((va - vb) + vc))) ((q0 &&& k2) &&& q2))) ||| (own_kp (own_z ((0 : Int64) < ((va - vb) - vc))) ((q0 &&& k2) &&& k3))) ||| (own_kp (own_z ((0 : Int64) < (((-va) + vb) + vc))) ((k1 &&& q1) &&& q2))) ||| (own_kp (own_z ((0 : Int64) < (((-va) + vb) - vc))) ((k1 &&& q1) &&& k3))))])) t
    refine XS.lsub X18.here hx rfl (hb hby at_259) rfl ?_
    show Steps p.tables e below (T18.setTop (mkF m 260 #[.val (.long q0), .second, .val (.long q1), .second, .val (.long q2), .second, .val (.long q3), .second, .val (.long q4), .second, .val (.long q5), .second, .val (.long va), .second, .val (.long vb), .second, .val (.long vc), .second, .val (.ref b1), .val (.long (own_fp 64 f3)), .second, .val (.long k1), .second, .val (.long k2), .second, .val (.long k3), .second, .unset, .unset] [(.long ((-va) - vb)), (.long ((((((own_kp (own_z ((0 : Int64) < ((va + vb) + vc))) ((q0 &&& q1) &&& q2)) ||| (own_kp (own_z ((0 : Int64) < ((va + vb) - vc))) ((q0 &&& q1) &&& k3))) ||| (own_kp (own_z ((0 : Int64) < ((va - vb) + vc))) ((q0 &&& k2) &&& q2))) ||| (own_kp (own_z ((0 : Int64) < ((va - vb) - vc))) ((q0 &&& k2) &&& k3))) ||| (own_kp (own_z ((0 : Int64) < (((-va) + vb) + vc))) ((k1 &&& q1) &&& q2))) ||| (own_kp (own_z ((0 : Int64) < (((-va) + vb) - vc))) ((k1 &&& q1) &&& k3))))])) t
    refine XS.lload X18.here hx rfl (hb hby at_260) rfl ?_
    show Steps p.tables e below (T18.setTop (mkF m 262 #[.val (.long q0), .second, .val (.long q1), .second, .val (.long q2), .second, .val (.long q3), .second, .val (.long q4), .second, .val (.long q5), .second, .val (.long va), .second, .val (.long vb), .second, .val (.long vc), .second, .val (.ref b1), .val (.long (own_fp 64 f3)), .second, .val (.long k1), .second, .val (.long k2), .second, .val (.long k3), .second, .unset, .unset] [(.long vc), (.long ((-va) - vb)), (.long ((((((own_kp (own_z ((0 : Int64) < ((va + vb) + vc))) ((q0 &&& q1) &&& q2)) ||| (own_kp (own_z ((0 : Int64) < ((va + vb) - vc))) ((q0 &&& q1) &&& k3))) ||| (own_kp (own_z ((0 : Int64) < ((va - vb) + vc))) ((q0 &&& k2) &&& q2))) ||| (own_kp (own_z ((0 : Int64) < ((va - vb) - vc))) ((q0 &&& k2) &&& k3))) ||| (own_kp (own_z ((0 : Int64) < (((-va) + vb) + vc))) ((k1 &&& q1) &&& q2))) ||| (own_kp (own_z ((0 : Int64) < (((-va) + vb) - vc))) ((k1 &&& q1) &&& k3))))])) t
    refine XS.ladd X18.here hx rfl (hb hby at_262) rfl ?_
    show Steps p.tables e below (T18.setTop (mkF m 263 #[.val (.long q0), .second, .val (.long q1), .second, .val (.long q2), .second, .val (.long q3), .second, .val (.long q4), .second, .val (.long q5), .second, .val (.long va), .second, .val (.long vb), .second, .val (.long vc), .second, .val (.ref b1), .val (.long (own_fp 64 f3)), .second, .val (.long k1), .second, .val (.long k2), .second, .val (.long k3), .second, .unset, .unset] [(.long (((-va) - vb) + vc)), (.long ((((((own_kp (own_z ((0 : Int64) < ((va + vb) + vc))) ((q0 &&& q1) &&& q2)) ||| (own_kp (own_z ((0 : Int64) < ((va + vb) - vc))) ((q0 &&& q1) &&& k3))) ||| (own_kp (own_z ((0 : Int64) < ((va - vb) + vc))) ((q0 &&& k2) &&& q2))) ||| (own_kp (own_z ((0 : Int64) < ((va - vb) - vc))) ((q0 &&& k2) &&& k3))) ||| (own_kp (own_z ((0 : Int64) < (((-va) + vb) + vc))) ((k1 &&& q1) &&& q2))) ||| (own_kp (own_z ((0 : Int64) < (((-va) + vb) - vc))) ((k1 &&& q1) &&& k3))))])) t
    refine XS.lconst X18.here hx rfl (hb hby at_263) ?_
    show Steps p.tables e below (T18.setTop (mkF m 264 #[.val (.long q0), .second, .val (.long q1), .second, .val (.long q2), .second, .val (.long q3), .second, .val (.long q4), .second, .val (.long q5), .second, .val (.long va), .second, .val (.long vb), .second, .val (.long vc), .second, .val (.ref b1), .val (.long (own_fp 64 f3)), .second, .val (.long k1), .second, .val (.long k2), .second, .val (.long k3), .second, .unset, .unset] [(.long (0 : Int64)), (.long (((-va) - vb) + vc)), (.long ((((((own_kp (own_z ((0 : Int64) < ((va + vb) + vc))) ((q0 &&& q1) &&& q2)) ||| (own_kp (own_z ((0 : Int64) < ((va + vb) - vc))) ((q0 &&& q1) &&& k3))) ||| (own_kp (own_z ((0 : Int64) < ((va - vb) + vc))) ((q0 &&& k2) &&& q2))) ||| (own_kp (own_z ((0 : Int64) < ((va - vb) - vc))) ((q0 &&& k2) &&& k3))) ||| (own_kp (own_z ((0 : Int64) < (((-va) + vb) + vc))) ((k1 &&& q1) &&& q2))) ||| (own_kp (own_z ((0 : Int64) < (((-va) + vb) - vc))) ((k1 &&& q1) &&& k3))))])) t
    refine XS.lcmp X18.here hx rfl (hb hby at_264) rfl ?_
    show Steps p.tables e below (T18.setTop (mkF m 265 #[.val (.long q0), .second, .val (.long q1), .second, .val (.long q2), .second, .val (.long q3), .second, .val (.long q4), .second, .val (.long q5), .second, .val (.long va), .second, .val (.long vb), .second, .val (.long vc), .second, .val (.ref b1), .val (.long (own_fp 64 f3)), .second, .val (.long k1), .second, .val (.long k2), .second, .val (.long k3), .second, .unset, .unset] [(.int (lcmpW (((-va) - vb) + vc) (0 : Int64))), (.long ((((((own_kp (own_z ((0 : Int64) < ((va + vb) + vc))) ((q0 &&& q1) &&& q2)) ||| (own_kp (own_z ((0 : Int64) < ((va + vb) - vc))) ((q0 &&& q1) &&& k3))) ||| (own_kp (own_z ((0 : Int64) < ((va - vb) + vc))) ((q0 &&& k2) &&& q2))) ||| (own_kp (own_z ((0 : Int64) < ((va - vb) - vc))) ((q0 &&& k2) &&& k3))) ||| (own_kp (own_z ((0 : Int64) < (((-va) + vb) + vc))) ((k1 &&& q1) &&& q2))) ||| (own_kp (own_z ((0 : Int64) < (((-va) + vb) - vc))) ((k1 &&& q1) &&& k3))))])) t
    exact kt
  refine own_go (T' := T18) (f' := (mkF m 273 #[.val (.long q0), .second, .val (.long q1), .second, .val (.long q2), .second, .val (.long q3), .second, .val (.long q4), .second, .val (.long q5), .second, .val (.long va), .second, .val (.long vb), .second, .val (.long vc), .second, .val (.ref b1), .val (.long (own_fp 64 f3)), .second, .val (.long k1), .second, .val (.long k2), .second, .val (.long k3), .second, .unset, .unset] [(.int (own_z ((0 : Int64) < (((-va) - vb) + vc)))), (.long ((((((own_kp (own_z ((0 : Int64) < ((va + vb) + vc))) ((q0 &&& q1) &&& q2)) ||| (own_kp (own_z ((0 : Int64) < ((va + vb) - vc))) ((q0 &&& q1) &&& k3))) ||| (own_kp (own_z ((0 : Int64) < ((va - vb) + vc))) ((q0 &&& k2) &&& q2))) ||| (own_kp (own_z ((0 : Int64) < ((va - vb) - vc))) ((q0 &&& k2) &&& k3))) ||| (own_kp (own_z ((0 : Int64) < (((-va) + vb) + vc))) ((k1 &&& q1) &&& q2))) ||| (own_kp (own_z ((0 : Int64) < (((-va) + vb) - vc))) ((k1 &&& q1) &&& k3))))])) (fun t kt => ?_) ?_
  · by_cases hc265_19 : (0 : Int64) < (((-va) - vb) + vc)
    · show Steps p.tables e below (T18.setTop (mkF m 265 #[.val (.long q0), .second, .val (.long q1), .second, .val (.long q2), .second, .val (.long q3), .second, .val (.long q4), .second, .val (.long q5), .second, .val (.long va), .second, .val (.long vb), .second, .val (.long vc), .second, .val (.ref b1), .val (.long (own_fp 64 f3)), .second, .val (.long k1), .second, .val (.long k2), .second, .val (.long k3), .second, .unset, .unset] [(.int (lcmpW (((-va) - vb) + vc) (0 : Int64))), (.long ((((((own_kp (own_z ((0 : Int64) < ((va + vb) + vc))) ((q0 &&& q1) &&& q2)) ||| (own_kp (own_z ((0 : Int64) < ((va + vb) - vc))) ((q0 &&& q1) &&& k3))) ||| (own_kp (own_z ((0 : Int64) < ((va - vb) + vc))) ((q0 &&& k2) &&& q2))) ||| (own_kp (own_z ((0 : Int64) < ((va - vb) - vc))) ((q0 &&& k2) &&& k3))) ||| (own_kp (own_z ((0 : Int64) < (((-va) + vb) + vc))) ((k1 &&& q1) &&& q2))) ||| (own_kp (own_z ((0 : Int64) < (((-va) + vb) - vc))) ((k1 &&& q1) &&& k3))))])) t
      refine XS.ifNo X18.here hx rfl (hb hby at_265) rfl (own_lN_le hc265_19) ?_
      show Steps p.tables e below (T18.setTop (mkF m 268 #[.val (.long q0), .second, .val (.long q1), .second, .val (.long q2), .second, .val (.long q3), .second, .val (.long q4), .second, .val (.long q5), .second, .val (.long va), .second, .val (.long vb), .second, .val (.long vc), .second, .val (.ref b1), .val (.long (own_fp 64 f3)), .second, .val (.long k1), .second, .val (.long k2), .second, .val (.long k3), .second, .unset, .unset] [(.long ((((((own_kp (own_z ((0 : Int64) < ((va + vb) + vc))) ((q0 &&& q1) &&& q2)) ||| (own_kp (own_z ((0 : Int64) < ((va + vb) - vc))) ((q0 &&& q1) &&& k3))) ||| (own_kp (own_z ((0 : Int64) < ((va - vb) + vc))) ((q0 &&& k2) &&& q2))) ||| (own_kp (own_z ((0 : Int64) < ((va - vb) - vc))) ((q0 &&& k2) &&& k3))) ||| (own_kp (own_z ((0 : Int64) < (((-va) + vb) + vc))) ((k1 &&& q1) &&& q2))) ||| (own_kp (own_z ((0 : Int64) < (((-va) + vb) - vc))) ((k1 &&& q1) &&& k3))))])) t
      refine XS.iconst X18.here hx rfl (hb hby at_268) ?_
      show Steps p.tables e below (T18.setTop (mkF m 269 #[.val (.long q0), .second, .val (.long q1), .second, .val (.long q2), .second, .val (.long q3), .second, .val (.long q4), .second, .val (.long q5), .second, .val (.long va), .second, .val (.long vb), .second, .val (.long vc), .second, .val (.ref b1), .val (.long (own_fp 64 f3)), .second, .val (.long k1), .second, .val (.long k2), .second, .val (.long k3), .second, .unset, .unset] [(.int (1 : Int32)), (.long ((((((own_kp (own_z ((0 : Int64) < ((va + vb) + vc))) ((q0 &&& q1) &&& q2)) ||| (own_kp (own_z ((0 : Int64) < ((va + vb) - vc))) ((q0 &&& q1) &&& k3))) ||| (own_kp (own_z ((0 : Int64) < ((va - vb) + vc))) ((q0 &&& k2) &&& q2))) ||| (own_kp (own_z ((0 : Int64) < ((va - vb) - vc))) ((q0 &&& k2) &&& k3))) ||| (own_kp (own_z ((0 : Int64) < (((-va) + vb) + vc))) ((k1 &&& q1) &&& q2))) ||| (own_kp (own_z ((0 : Int64) < (((-va) + vb) - vc))) ((k1 &&& q1) &&& k3))))])) t
      refine XS.goto X18.here hx rfl (pc0 := 269) (pc' := 273) rfl (hb hby at_269) (by decide) (by decide) ?_
      show Steps p.tables e below (T18.setTop (mkF m 273 #[.val (.long q0), .second, .val (.long q1), .second, .val (.long q2), .second, .val (.long q3), .second, .val (.long q4), .second, .val (.long q5), .second, .val (.long va), .second, .val (.long vb), .second, .val (.long vc), .second, .val (.ref b1), .val (.long (own_fp 64 f3)), .second, .val (.long k1), .second, .val (.long k2), .second, .val (.long k3), .second, .unset, .unset] [(.int (1 : Int32)), (.long ((((((own_kp (own_z ((0 : Int64) < ((va + vb) + vc))) ((q0 &&& q1) &&& q2)) ||| (own_kp (own_z ((0 : Int64) < ((va + vb) - vc))) ((q0 &&& q1) &&& k3))) ||| (own_kp (own_z ((0 : Int64) < ((va - vb) + vc))) ((q0 &&& k2) &&& q2))) ||| (own_kp (own_z ((0 : Int64) < ((va - vb) - vc))) ((q0 &&& k2) &&& k3))) ||| (own_kp (own_z ((0 : Int64) < (((-va) + vb) + vc))) ((k1 &&& q1) &&& q2))) ||| (own_kp (own_z ((0 : Int64) < (((-va) + vb) - vc))) ((k1 &&& q1) &&& k3))))])) t
      rw [own_z_t hc265_19] at kt
      exact kt
    · show Steps p.tables e below (T18.setTop (mkF m 265 #[.val (.long q0), .second, .val (.long q1), .second, .val (.long q2), .second, .val (.long q3), .second, .val (.long q4), .second, .val (.long q5), .second, .val (.long va), .second, .val (.long vb), .second, .val (.long vc), .second, .val (.ref b1), .val (.long (own_fp 64 f3)), .second, .val (.long k1), .second, .val (.long k2), .second, .val (.long k3), .second, .unset, .unset] [(.int (lcmpW (((-va) - vb) + vc) (0 : Int64))), (.long ((((((own_kp (own_z ((0 : Int64) < ((va + vb) + vc))) ((q0 &&& q1) &&& q2)) ||| (own_kp (own_z ((0 : Int64) < ((va + vb) - vc))) ((q0 &&& q1) &&& k3))) ||| (own_kp (own_z ((0 : Int64) < ((va - vb) + vc))) ((q0 &&& k2) &&& q2))) ||| (own_kp (own_z ((0 : Int64) < ((va - vb) - vc))) ((q0 &&& k2) &&& k3))) ||| (own_kp (own_z ((0 : Int64) < (((-va) + vb) + vc))) ((k1 &&& q1) &&& q2))) ||| (own_kp (own_z ((0 : Int64) < (((-va) + vb) - vc))) ((k1 &&& q1) &&& k3))))])) t
      refine XS.ifYes X18.here hx rfl (pc0 := 265) (pc' := 272) rfl (hb hby at_265) rfl (own_lY_le hc265_19) (by decide) (by decide) ?_
      show Steps p.tables e below (T18.setTop (mkF m 272 #[.val (.long q0), .second, .val (.long q1), .second, .val (.long q2), .second, .val (.long q3), .second, .val (.long q4), .second, .val (.long q5), .second, .val (.long va), .second, .val (.long vb), .second, .val (.long vc), .second, .val (.ref b1), .val (.long (own_fp 64 f3)), .second, .val (.long k1), .second, .val (.long k2), .second, .val (.long k3), .second, .unset, .unset] [(.long ((((((own_kp (own_z ((0 : Int64) < ((va + vb) + vc))) ((q0 &&& q1) &&& q2)) ||| (own_kp (own_z ((0 : Int64) < ((va + vb) - vc))) ((q0 &&& q1) &&& k3))) ||| (own_kp (own_z ((0 : Int64) < ((va - vb) + vc))) ((q0 &&& k2) &&& q2))) ||| (own_kp (own_z ((0 : Int64) < ((va - vb) - vc))) ((q0 &&& k2) &&& k3))) ||| (own_kp (own_z ((0 : Int64) < (((-va) + vb) + vc))) ((k1 &&& q1) &&& q2))) ||| (own_kp (own_z ((0 : Int64) < (((-va) + vb) - vc))) ((k1 &&& q1) &&& k3))))])) t
      refine XS.iconst X18.here hx rfl (hb hby at_272) ?_
      show Steps p.tables e below (T18.setTop (mkF m 273 #[.val (.long q0), .second, .val (.long q1), .second, .val (.long q2), .second, .val (.long q3), .second, .val (.long q4), .second, .val (.long q5), .second, .val (.long va), .second, .val (.long vb), .second, .val (.long vc), .second, .val (.ref b1), .val (.long (own_fp 64 f3)), .second, .val (.long k1), .second, .val (.long k2), .second, .val (.long k3), .second, .unset, .unset] [(.int (0 : Int32)), (.long ((((((own_kp (own_z ((0 : Int64) < ((va + vb) + vc))) ((q0 &&& q1) &&& q2)) ||| (own_kp (own_z ((0 : Int64) < ((va + vb) - vc))) ((q0 &&& q1) &&& k3))) ||| (own_kp (own_z ((0 : Int64) < ((va - vb) + vc))) ((q0 &&& k2) &&& q2))) ||| (own_kp (own_z ((0 : Int64) < ((va - vb) - vc))) ((q0 &&& k2) &&& k3))) ||| (own_kp (own_z ((0 : Int64) < (((-va) + vb) + vc))) ((k1 &&& q1) &&& q2))) ||| (own_kp (own_z ((0 : Int64) < (((-va) + vb) - vc))) ((k1 &&& q1) &&& k3))))])) t
      rw [own_z_f hc265_19] at kt
      exact kt
  refine own_go (T' := T18) (f' := (mkF m 281 #[.val (.long q0), .second, .val (.long q1), .second, .val (.long q2), .second, .val (.long q3), .second, .val (.long q4), .second, .val (.long q5), .second, .val (.long va), .second, .val (.long vb), .second, .val (.long vc), .second, .val (.ref b1), .val (.long (own_fp 64 f3)), .second, .val (.long k1), .second, .val (.long k2), .second, .val (.long k3), .second, .unset, .unset] [(.long ((k1 &&& k2) &&& q2)), (.int (own_z ((0 : Int64) < (((-va) - vb) + vc)))), (.long ((((((own_kp (own_z ((0 : Int64) < ((va + vb) + vc))) ((q0 &&& q1) &&& q2)) ||| (own_kp (own_z ((0 : Int64) < ((va + vb) - vc))) ((q0 &&& q1) &&& k3))) ||| (own_kp (own_z ((0 : Int64) < ((va - vb) + vc))) ((q0 &&& k2) &&& q2))) ||| (own_kp (own_z ((0 : Int64) < ((va - vb) - vc))) ((q0 &&& k2) &&& k3))) ||| (own_kp (own_z ((0 : Int64) < (((-va) + vb) + vc))) ((k1 &&& q1) &&& q2))) ||| (own_kp (own_z ((0 : Int64) < (((-va) + vb) - vc))) ((k1 &&& q1) &&& k3))))])) (fun t kt => ?_) ?_
  · show Steps p.tables e below (T18.setTop (mkF m 273 #[.val (.long q0), .second, .val (.long q1), .second, .val (.long q2), .second, .val (.long q3), .second, .val (.long q4), .second, .val (.long q5), .second, .val (.long va), .second, .val (.long vb), .second, .val (.long vc), .second, .val (.ref b1), .val (.long (own_fp 64 f3)), .second, .val (.long k1), .second, .val (.long k2), .second, .val (.long k3), .second, .unset, .unset] [(.int (own_z ((0 : Int64) < (((-va) - vb) + vc)))), (.long ((((((own_kp (own_z ((0 : Int64) < ((va + vb) + vc))) ((q0 &&& q1) &&& q2)) ||| (own_kp (own_z ((0 : Int64) < ((va + vb) - vc))) ((q0 &&& q1) &&& k3))) ||| (own_kp (own_z ((0 : Int64) < ((va - vb) + vc))) ((q0 &&& k2) &&& q2))) ||| (own_kp (own_z ((0 : Int64) < ((va - vb) - vc))) ((q0 &&& k2) &&& k3))) ||| (own_kp (own_z ((0 : Int64) < (((-va) + vb) + vc))) ((k1 &&& q1) &&& q2))) ||| (own_kp (own_z ((0 : Int64) < (((-va) + vb) - vc))) ((k1 &&& q1) &&& k3))))])) t
    refine XS.lload X18.here hx rfl (hb hby at_273) rfl ?_
    show Steps p.tables e below (T18.setTop (mkF m 275 #[.val (.long q0), .second, .val (.long q1), .second, .val (.long q2), .second, .val (.long q3), .second, .val (.long q4), .second, .val (.long q5), .second, .val (.long va), .second, .val (.long vb), .second, .val (.long vc), .second, .val (.ref b1), .val (.long (own_fp 64 f3)), .second, .val (.long k1), .second, .val (.long k2), .second, .val (.long k3), .second, .unset, .unset] [(.long k1), (.int (own_z ((0 : Int64) < (((-va) - vb) + vc)))), (.long ((((((own_kp (own_z ((0 : Int64) < ((va + vb) + vc))) ((q0 &&& q1) &&& q2)) ||| (own_kp (own_z ((0 : Int64) < ((va + vb) - vc))) ((q0 &&& q1) &&& k3))) ||| (own_kp (own_z ((0 : Int64) < ((va - vb) + vc))) ((q0 &&& k2) &&& q2))) ||| (own_kp (own_z ((0 : Int64) < ((va - vb) - vc))) ((q0 &&& k2) &&& k3))) ||| (own_kp (own_z ((0 : Int64) < (((-va) + vb) + vc))) ((k1 &&& q1) &&& q2))) ||| (own_kp (own_z ((0 : Int64) < (((-va) + vb) - vc))) ((k1 &&& q1) &&& k3))))])) t
    refine XS.lload X18.here hx rfl (hb hby at_275) rfl ?_
    show Steps p.tables e below (T18.setTop (mkF m 277 #[.val (.long q0), .second, .val (.long q1), .second, .val (.long q2), .second, .val (.long q3), .second, .val (.long q4), .second, .val (.long q5), .second, .val (.long va), .second, .val (.long vb), .second, .val (.long vc), .second, .val (.ref b1), .val (.long (own_fp 64 f3)), .second, .val (.long k1), .second, .val (.long k2), .second, .val (.long k3), .second, .unset, .unset] [(.long k2), (.long k1), (.int (own_z ((0 : Int64) < (((-va) - vb) + vc)))), (.long ((((((own_kp (own_z ((0 : Int64) < ((va + vb) + vc))) ((q0 &&& q1) &&& q2)) ||| (own_kp (own_z ((0 : Int64) < ((va + vb) - vc))) ((q0 &&& q1) &&& k3))) ||| (own_kp (own_z ((0 : Int64) < ((va - vb) + vc))) ((q0 &&& k2) &&& q2))) ||| (own_kp (own_z ((0 : Int64) < ((va - vb) - vc))) ((q0 &&& k2) &&& k3))) ||| (own_kp (own_z ((0 : Int64) < (((-va) + vb) + vc))) ((k1 &&& q1) &&& q2))) ||| (own_kp (own_z ((0 : Int64) < (((-va) + vb) - vc))) ((k1 &&& q1) &&& k3))))])) t
    refine XS.land X18.here hx rfl (hb hby at_277) rfl ?_
    show Steps p.tables e below (T18.setTop (mkF m 278 #[.val (.long q0), .second, .val (.long q1), .second, .val (.long q2), .second, .val (.long q3), .second, .val (.long q4), .second, .val (.long q5), .second, .val (.long va), .second, .val (.long vb), .second, .val (.long vc), .second, .val (.ref b1), .val (.long (own_fp 64 f3)), .second, .val (.long k1), .second, .val (.long k2), .second, .val (.long k3), .second, .unset, .unset] [(.long (k1 &&& k2)), (.int (own_z ((0 : Int64) < (((-va) - vb) + vc)))), (.long ((((((own_kp (own_z ((0 : Int64) < ((va + vb) + vc))) ((q0 &&& q1) &&& q2)) ||| (own_kp (own_z ((0 : Int64) < ((va + vb) - vc))) ((q0 &&& q1) &&& k3))) ||| (own_kp (own_z ((0 : Int64) < ((va - vb) + vc))) ((q0 &&& k2) &&& q2))) ||| (own_kp (own_z ((0 : Int64) < ((va - vb) - vc))) ((q0 &&& k2) &&& k3))) ||| (own_kp (own_z ((0 : Int64) < (((-va) + vb) + vc))) ((k1 &&& q1) &&& q2))) ||| (own_kp (own_z ((0 : Int64) < (((-va) + vb) - vc))) ((k1 &&& q1) &&& k3))))])) t
    refine XS.lload X18.here hx rfl (hb hby at_278) rfl ?_
    show Steps p.tables e below (T18.setTop (mkF m 280 #[.val (.long q0), .second, .val (.long q1), .second, .val (.long q2), .second, .val (.long q3), .second, .val (.long q4), .second, .val (.long q5), .second, .val (.long va), .second, .val (.long vb), .second, .val (.long vc), .second, .val (.ref b1), .val (.long (own_fp 64 f3)), .second, .val (.long k1), .second, .val (.long k2), .second, .val (.long k3), .second, .unset, .unset] [(.long q2), (.long (k1 &&& k2)), (.int (own_z ((0 : Int64) < (((-va) - vb) + vc)))), (.long ((((((own_kp (own_z ((0 : Int64) < ((va + vb) + vc))) ((q0 &&& q1) &&& q2)) ||| (own_kp (own_z ((0 : Int64) < ((va + vb) - vc))) ((q0 &&& q1) &&& k3))) ||| (own_kp (own_z ((0 : Int64) < ((va - vb) + vc))) ((q0 &&& k2) &&& q2))) ||| (own_kp (own_z ((0 : Int64) < ((va - vb) - vc))) ((q0 &&& k2) &&& k3))) ||| (own_kp (own_z ((0 : Int64) < (((-va) + vb) + vc))) ((k1 &&& q1) &&& q2))) ||| (own_kp (own_z ((0 : Int64) < (((-va) + vb) - vc))) ((k1 &&& q1) &&& k3))))])) t
    refine XS.land X18.here hx rfl (hb hby at_280) rfl ?_
    show Steps p.tables e below (T18.setTop (mkF m 281 #[.val (.long q0), .second, .val (.long q1), .second, .val (.long q2), .second, .val (.long q3), .second, .val (.long q4), .second, .val (.long q5), .second, .val (.long va), .second, .val (.long vb), .second, .val (.long vc), .second, .val (.ref b1), .val (.long (own_fp 64 f3)), .second, .val (.long k1), .second, .val (.long k2), .second, .val (.long k3), .second, .unset, .unset] [(.long ((k1 &&& k2) &&& q2)), (.int (own_z ((0 : Int64) < (((-va) - vb) + vc)))), (.long ((((((own_kp (own_z ((0 : Int64) < ((va + vb) + vc))) ((q0 &&& q1) &&& q2)) ||| (own_kp (own_z ((0 : Int64) < ((va + vb) - vc))) ((q0 &&& q1) &&& k3))) ||| (own_kp (own_z ((0 : Int64) < ((va - vb) + vc))) ((q0 &&& k2) &&& q2))) ||| (own_kp (own_z ((0 : Int64) < ((va - vb) - vc))) ((q0 &&& k2) &&& k3))) ||| (own_kp (own_z ((0 : Int64) < (((-va) + vb) + vc))) ((k1 &&& q1) &&& q2))) ||| (own_kp (own_z ((0 : Int64) < (((-va) + vb) - vc))) ((k1 &&& q1) &&& k3))))])) t
    exact kt
  refine own_callSp X18 hx hZ hown e18 (hw _ (List.mem_of_getElem? (i := 30) rfl)) (hw _ (List.mem_of_getElem? (i := 31) rfl)) (hw _ (List.mem_of_getElem? (i := 32) rfl)) (hw _ (List.mem_of_getElem? (i := 33) rfl)) (by decide) (rm7 l Z aw hw (own_z ((0 : Int64) < (((-va) - vb) + vc))) ((k1 &&& k2) &&& q2) T5.heap n0 ZKq5) (g := (mkF m 281 #[.val (.long q0), .second, .val (.long q1), .second, .val (.long q2), .second, .val (.long q3), .second, .val (.long q4), .second, .val (.long q5), .second, .val (.long va), .second, .val (.long vb), .second, .val (.long vc), .second, .val (.ref b1), .val (.long (own_fp 64 f3)), .second, .val (.long k1), .second, .val (.long k2), .second, .val (.long k3), .second, .unset, .unset] [(.long ((k1 &&& k2) &&& q2)), (.int (own_z ((0 : Int64) < (((-va) - vb) + vc)))), (.long ((((((own_kp (own_z ((0 : Int64) < ((va + vb) + vc))) ((q0 &&& q1) &&& q2)) ||| (own_kp (own_z ((0 : Int64) < ((va + vb) - vc))) ((q0 &&& q1) &&& k3))) ||| (own_kp (own_z ((0 : Int64) < ((va - vb) + vc))) ((q0 &&& k2) &&& q2))) ||| (own_kp (own_z ((0 : Int64) < ((va - vb) - vc))) ((q0 &&& k2) &&& k3))) ||| (own_kp (own_z ((0 : Int64) < (((-va) + vb) + vc))) ((k1 &&& q1) &&& q2))) ||| (own_kp (own_z ((0 : Int64) < (((-va) + vb) - vc))) ((k1 &&& q1) &&& k3))))])) rfl (by rw [hml]; rfl) (argsL := [(.int (own_z ((0 : Int64) < (((-va) - vb) + vc)))), (.long ((k1 &&& k2) &&& q2))]) (rest := [(.long ((((((own_kp (own_z ((0 : Int64) < ((va + vb) + vc))) ((q0 &&& q1) &&& q2)) ||| (own_kp (own_z ((0 : Int64) < ((va + vb) - vc))) ((q0 &&& q1) &&& k3))) ||| (own_kp (own_z ((0 : Int64) < ((va - vb) + vc))) ((q0 &&& k2) &&& q2))) ||| (own_kp (own_z ((0 : Int64) < ((va - vb) - vc))) ((q0 &&& k2) &&& k3))) ||| (own_kp (own_z ((0 : Int64) < (((-va) + vb) + vc))) ((k1 &&& q1) &&& q2))) ||| (own_kp (own_z ((0 : Int64) < (((-va) + vb) - vc))) ((k1 &&& q1) &&& k3))))]) (lenOf pd_4 rfl) rfl rfl (W := 2) (by show 2 * 0 + _ ≤ _; exact Nat.le_of_eq rfl) (hb hby at_281) (by decide) (by decide) (by decide) (by decide) ?_
  intro T20 X20 e20
  refine own_go (T' := T20) (f' := (mkF m 296 #[.val (.long q0), .second, .val (.long q1), .second, .val (.long q2), .second, .val (.long q3), .second, .val (.long q4), .second, .val (.long q5), .second, .val (.long va), .second, .val (.long vb), .second, .val (.long vc), .second, .val (.ref b1), .val (.long (own_fp 64 f3)), .second, .val (.long k1), .second, .val (.long k2), .second, .val (.long k3), .second, .unset, .unset] [(.int (lcmpW (((-va) - vb) - vc) (0 : Int64))), (.long (((((((own_kp (own_z ((0 : Int64) < ((va + vb) + vc))) ((q0 &&& q1) &&& q2)) ||| (own_kp (own_z ((0 : Int64) < ((va + vb) - vc))) ((q0 &&& q1) &&& k3))) ||| (own_kp (own_z ((0 : Int64) < ((va - vb) + vc))) ((q0 &&& k2) &&& q2))) ||| (own_kp (own_z ((0 : Int64) < ((va - vb) - vc))) ((q0 &&& k2) &&& k3))) ||| (own_kp (own_z ((0 : Int64) < (((-va) + vb) + vc))) ((k1 &&& q1) &&& q2))) ||| (own_kp (own_z ((0 : Int64) < (((-va) + vb) - vc))) ((k1 &&& q1) &&& k3))) ||| (own_kp (own_z ((0 : Int64) < (((-va) - vb) + vc))) ((k1 &&& k2) &&& q2))))])) (fun t kt => ?_) ?_
  · show Steps p.tables e below (T20.setTop (mkF m 284 #[.val (.long q0), .second, .val (.long q1), .second, .val (.long q2), .second, .val (.long q3), .second, .val (.long q4), .second, .val (.long q5), .second, .val (.long va), .second, .val (.long vb), .second, .val (.long vc), .second, .val (.ref b1), .val (.long (own_fp 64 f3)), .second, .val (.long k1), .second, .val (.long k2), .second, .val (.long k3), .second, .unset, .unset] [(.long (own_kp (own_z ((0 : Int64) < (((-va) - vb) + vc))) ((k1 &&& k2) &&& q2))), (.long ((((((own_kp (own_z ((0 : Int64) < ((va + vb) + vc))) ((q0 &&& q1) &&& q2)) ||| (own_kp (own_z ((0 : Int64) < ((va + vb) - vc))) ((q0 &&& q1) &&& k3))) ||| (own_kp (own_z ((0 : Int64) < ((va - vb) + vc))) ((q0 &&& k2) &&& q2))) ||| (own_kp (own_z ((0 : Int64) < ((va - vb) - vc))) ((q0 &&& k2) &&& k3))) ||| (own_kp (own_z ((0 : Int64) < (((-va) + vb) + vc))) ((k1 &&& q1) &&& q2))) ||| (own_kp (own_z ((0 : Int64) < (((-va) + vb) - vc))) ((k1 &&& q1) &&& k3))))])) t
    refine XS.lor X20.here hx rfl (hb hby at_284) rfl ?_
    show Steps p.tables e below (T20.setTop (mkF m 285 #[.val (.long q0), .second, .val (.long q1), .second, .val (.long q2), .second, .val (.long q3), .second, .val (.long q4), .second, .val (.long q5), .second, .val (.long va), .second, .val (.long vb), .second, .val (.long vc), .second, .val (.ref b1), .val (.long (own_fp 64 f3)), .second, .val (.long k1), .second, .val (.long k2), .second, .val (.long k3), .second, .unset, .unset] [(.long (((((((own_kp (own_z ((0 : Int64) < ((va + vb) + vc))) ((q0 &&& q1) &&& q2)) ||| (own_kp (own_z ((0 : Int64) < ((va + vb) - vc))) ((q0 &&& q1) &&& k3))) ||| (own_kp (own_z ((0 : Int64) < ((va - vb) + vc))) ((q0 &&& k2) &&& q2))) ||| (own_kp (own_z ((0 : Int64) < ((va - vb) - vc))) ((q0 &&& k2) &&& k3))) ||| (own_kp (own_z ((0 : Int64) < (((-va) + vb) + vc))) ((k1 &&& q1) &&& q2))) ||| (own_kp (own_z ((0 : Int64) < (((-va) + vb) - vc))) ((k1 &&& q1) &&& k3))) ||| (own_kp (own_z ((0 : Int64) < (((-va) - vb) + vc))) ((k1 &&& k2) &&& q2))))])) t
    refine XS.lload X20.here hx rfl (hb hby at_285) rfl ?_
    show Steps p.tables e below (T20.setTop (mkF m 287 #[.val (.long q0), .second, .val (.long q1), .second, .val (.long q2), .second, .val (.long q3), .second, .val (.long q4), .second, .val (.long q5), .second, .val (.long va), .second, .val (.long vb), .second, .val (.long vc), .second, .val (.ref b1), .val (.long (own_fp 64 f3)), .second, .val (.long k1), .second, .val (.long k2), .second, .val (.long k3), .second, .unset, .unset] [(.long va), (.long (((((((own_kp (own_z ((0 : Int64) < ((va + vb) + vc))) ((q0 &&& q1) &&& q2)) ||| (own_kp (own_z ((0 : Int64) < ((va + vb) - vc))) ((q0 &&& q1) &&& k3))) ||| (own_kp (own_z ((0 : Int64) < ((va - vb) + vc))) ((q0 &&& k2) &&& q2))) ||| (own_kp (own_z ((0 : Int64) < ((va - vb) - vc))) ((q0 &&& k2) &&& k3))) ||| (own_kp (own_z ((0 : Int64) < (((-va) + vb) + vc))) ((k1 &&& q1) &&& q2))) ||| (own_kp (own_z ((0 : Int64) < (((-va) + vb) - vc))) ((k1 &&& q1) &&& k3))) ||| (own_kp (own_z ((0 : Int64) < (((-va) - vb) + vc))) ((k1 &&& k2) &&& q2))))])) t
    refine XS.lneg X20.here hx rfl (hb hby at_287) rfl ?_
    show Steps p.tables e below (T20.setTop (mkF m 288 #[.val (.long q0), .second, .val (.long q1), .second, .val (.long q2), .second, .val (.long q3), .second, .val (.long q4), .second, .val (.long q5), .second, .val (.long va), .second, .val (.long vb), .second, .val (.long vc), .second, .val (.ref b1), .val (.long (own_fp 64 f3)), .second, .val (.long k1), .second, .val (.long k2), .second, .val (.long k3), .second, .unset, .unset] [(.long (-va)), (.long (((((((own_kp (own_z ((0 : Int64) < ((va + vb) + vc))) ((q0 &&& q1) &&& q2)) ||| (own_kp (own_z ((0 : Int64) < ((va + vb) - vc))) ((q0 &&& q1) &&& k3))) ||| (own_kp (own_z ((0 : Int64) < ((va - vb) + vc))) ((q0 &&& k2) &&& q2))) ||| (own_kp (own_z ((0 : Int64) < ((va - vb) - vc))) ((q0 &&& k2) &&& k3))) ||| (own_kp (own_z ((0 : Int64) < (((-va) + vb) + vc))) ((k1 &&& q1) &&& q2))) ||| (own_kp (own_z ((0 : Int64) < (((-va) + vb) - vc))) ((k1 &&& q1) &&& k3))) ||| (own_kp (own_z ((0 : Int64) < (((-va) - vb) + vc))) ((k1 &&& k2) &&& q2))))])) t
    refine XS.lload X20.here hx rfl (hb hby at_288) rfl ?_
    show Steps p.tables e below (T20.setTop (mkF m 290 #[.val (.long q0), .second, .val (.long q1), .second, .val (.long q2), .second, .val (.long q3), .second, .val (.long q4), .second, .val (.long q5), .second, .val (.long va), .second, .val (.long vb), .second, .val (.long vc), .second, .val (.ref b1), .val (.long (own_fp 64 f3)), .second, .val (.long k1), .second, .val (.long k2), .second, .val (.long k3), .second, .unset, .unset] [(.long vb), (.long (-va)), (.long (((((((own_kp (own_z ((0 : Int64) < ((va + vb) + vc))) ((q0 &&& q1) &&& q2)) ||| (own_kp (own_z ((0 : Int64) < ((va + vb) - vc))) ((q0 &&& q1) &&& k3))) ||| (own_kp (own_z ((0 : Int64) < ((va - vb) + vc))) ((q0 &&& k2) &&& q2))) ||| (own_kp (own_z ((0 : Int64) < ((va - vb) - vc))) ((q0 &&& k2) &&& k3))) ||| (own_kp (own_z ((0 : Int64) < (((-va) + vb) + vc))) ((k1 &&& q1) &&& q2))) ||| (own_kp (own_z ((0 : Int64) < (((-va) + vb) - vc))) ((k1 &&& q1) &&& k3))) ||| (own_kp (own_z ((0 : Int64) < (((-va) - vb) + vc))) ((k1 &&& k2) &&& q2))))])) t
    refine XS.lsub X20.here hx rfl (hb hby at_290) rfl ?_
    show Steps p.tables e below (T20.setTop (mkF m 291 #[.val (.long q0), .second, .val (.long q1), .second, .val (.long q2), .second, .val (.long q3), .second, .val (.long q4), .second, .val (.long q5), .second, .val (.long va), .second, .val (.long vb), .second, .val (.long vc), .second, .val (.ref b1), .val (.long (own_fp 64 f3)), .second, .val (.long k1), .second, .val (.long k2), .second, .val (.long k3), .second, .unset, .unset] [(.long ((-va) - vb)), (.long (((((((own_kp (own_z ((0 : Int64) < ((va + vb) + vc))) ((q0 &&& q1) &&& q2)) ||| (own_kp (own_z ((0 : Int64) < ((va + vb) - vc))) ((q0 &&& q1) &&& k3))) ||| (own_kp (own_z ((0 : Int64) < ((va - vb) + vc))) ((q0 &&& k2) &&& q2))) ||| (own_kp (own_z ((0 : Int64) < ((va - vb) - vc))) ((q0 &&& k2) &&& k3))) ||| (own_kp (own_z ((0 : Int64) < (((-va) + vb) + vc))) ((k1 &&& q1) &&& q2))) ||| (own_kp (own_z ((0 : Int64) < (((-va) + vb) - vc))) ((k1 &&& q1) &&& k3))) ||| (own_kp (own_z ((0 : Int64) < (((-va) - vb) + vc))) ((k1 &&& k2) &&& q2))))])) t
    refine XS.lload X20.here hx rfl (hb hby at_291) rfl ?_
    show Steps p.tables e below (T20.setTop (mkF m 293 #[.val (.long q0), .second, .val (.long q1), .second, .val (.long q2), .second, .val (.long q3), .second, .val (.long q4), .second, .val (.long q5), .second, .val (.long va), .second, .val (.long vb), .second, .val (.long vc), .second, .val (.ref b1), .val (.long (own_fp 64 f3)), .second, .val (.long k1), .second, .val (.long k2), .second, .val (.long k3), .second, .unset, .unset] [(.long vc), (.long ((-va) - vb)), (.long (((((((own_kp (own_z ((0 : Int64) < ((va + vb) + vc))) ((q0 &&& q1) &&& q2)) ||| (own_kp (own_z ((0 : Int64) < ((va + vb) - vc))) ((q0 &&& q1) &&& k3))) ||| (own_kp (own_z ((0 : Int64) < ((va - vb) + vc))) ((q0 &&& k2) &&& q2))) ||| (own_kp (own_z ((0 : Int64) < ((va - vb) - vc))) ((q0 &&& k2) &&& k3))) ||| (own_kp (own_z ((0 : Int64) < (((-va) + vb) + vc))) ((k1 &&& q1) &&& q2))) ||| (own_kp (own_z ((0 : Int64) < (((-va) + vb) - vc))) ((k1 &&& q1) &&& k3))) ||| (own_kp (own_z ((0 : Int64) < (((-va) - vb) + vc))) ((k1 &&& k2) &&& q2))))])) t
    refine XS.lsub X20.here hx rfl (hb hby at_293) rfl ?_
    show Steps p.tables e below (T20.setTop (mkF m 294 #[.val (.long q0), .second, .val (.long q1), .second, .val (.long q2), .second, .val (.long q3), .second, .val (.long q4), .second, .val (.long q5), .second, .val (.long va), .second, .val (.long vb), .second, .val (.long vc), .second, .val (.ref b1), .val (.long (own_fp 64 f3)), .second, .val (.long k1), .second, .val (.long k2), .second, .val (.long k3), .second, .unset, .unset] [(.long (((-va) - vb) - vc)), (.long (((((((own_kp (own_z ((0 : Int64) < ((va + vb) + vc))) ((q0 &&& q1) &&& q2)) ||| (own_kp (own_z ((0 : Int64) < ((va + vb) - vc))) ((q0 &&& q1) &&& k3))) ||| (own_kp (own_z ((0 : Int64) < ((va - vb) + vc))) ((q0 &&& k2) &&& q2))) ||| (own_kp (own_z ((0 : Int64) < ((va - vb) - vc))) ((q0 &&& k2) &&& k3))) ||| (own_kp (own_z ((0 : Int64) < (((-va) + vb) + vc))) ((k1 &&& q1) &&& q2))) ||| (own_kp (own_z ((0 : Int64) < (((-va) + vb) - vc))) ((k1 &&& q1) &&& k3))) ||| (own_kp (own_z ((0 : Int64) < (((-va) - vb) + vc))) ((k1 &&& k2) &&& q2))))])) t
    refine XS.lconst X20.here hx rfl (hb hby at_294) ?_
    show Steps p.tables e below (T20.setTop (mkF m 295 #[.val (.long q0), .second, .val (.long q1), .second, .val (.long q2), .second, .val (.long q3), .second, .val (.long q4), .second, .val (.long q5), .second, .val (.long va), .second, .val (.long vb), .second, .val (.long vc), .second, .val (.ref b1), .val (.long (own_fp 64 f3)), .second, .val (.long k1), .second, .val (.long k2), .second, .val (.long k3), .second, .unset, .unset] [(.long (0 : Int64)), (.long (((-va) - vb) - vc)), (.long (((((((own_kp (own_z ((0 : Int64) < ((va + vb) + vc))) ((q0 &&& q1) &&& q2)) ||| (own_kp (own_z ((0 : Int64) < ((va + vb) - vc))) ((q0 &&& q1) &&& k3))) ||| (own_kp (own_z ((0 : Int64) < ((va - vb) + vc))) ((q0 &&& k2) &&& q2))) ||| (own_kp (own_z ((0 : Int64) < ((va - vb) - vc))) ((q0 &&& k2) &&& k3))) ||| (own_kp (own_z ((0 : Int64) < (((-va) + vb) + vc))) ((k1 &&& q1) &&& q2))) ||| (own_kp (own_z ((0 : Int64) < (((-va) + vb) - vc))) ((k1 &&& q1) &&& k3))) ||| (own_kp (own_z ((0 : Int64) < (((-va) - vb) + vc))) ((k1 &&& k2) &&& q2))))])) t
    refine XS.lcmp X20.here hx rfl (hb hby at_295) rfl ?_
    show Steps p.tables e below (T20.setTop (mkF m 296 #[.val (.long q0), .second, .val (.long q1), .second, .val (.long q2), .second, .val (.long q3), .second, .val (.long q4), .second, .val (.long q5), .second, .val (.long va), .second, .val (.long vb), .second, .val (.long vc), .second, .val (.ref b1), .val (.long (own_fp 64 f3)), .second, .val (.long k1), .second, .val (.long k2), .second, .val (.long k3), .second, .unset, .unset] [(.int (lcmpW (((-va) - vb) - vc) (0 : Int64))), (.long (((((((own_kp (own_z ((0 : Int64) < ((va + vb) + vc))) ((q0 &&& q1) &&& q2)) ||| (own_kp (own_z ((0 : Int64) < ((va + vb) - vc))) ((q0 &&& q1) &&& k3))) ||| (own_kp (own_z ((0 : Int64) < ((va - vb) + vc))) ((q0 &&& k2) &&& q2))) ||| (own_kp (own_z ((0 : Int64) < ((va - vb) - vc))) ((q0 &&& k2) &&& k3))) ||| (own_kp (own_z ((0 : Int64) < (((-va) + vb) + vc))) ((k1 &&& q1) &&& q2))) ||| (own_kp (own_z ((0 : Int64) < (((-va) + vb) - vc))) ((k1 &&& q1) &&& k3))) ||| (own_kp (own_z ((0 : Int64) < (((-va) - vb) + vc))) ((k1 &&& k2) &&& q2))))])) t
    exact kt
  refine own_go (T' := T20) (f' := (mkF m 304 #[.val (.long q0), .second, .val (.long q1), .second, .val (.long q2), .second, .val (.long q3), .second, .val (.long q4), .second, .val (.long q5), .second, .val (.long va), .second, .val (.long vb), .second, .val (.long vc), .second, .val (.ref b1), .val (.long (own_fp 64 f3)), .second, .val (.long k1), .second, .val (.long k2), .second, .val (.long k3), .second, .unset, .unset] [(.int (own_z ((0 : Int64) < (((-va) - vb) - vc)))), (.long (((((((own_kp (own_z ((0 : Int64) < ((va + vb) + vc))) ((q0 &&& q1) &&& q2)) ||| (own_kp (own_z ((0 : Int64) < ((va + vb) - vc))) ((q0 &&& q1) &&& k3))) ||| (own_kp (own_z ((0 : Int64) < ((va - vb) + vc))) ((q0 &&& k2) &&& q2))) ||| (own_kp (own_z ((0 : Int64) < ((va - vb) - vc))) ((q0 &&& k2) &&& k3))) ||| (own_kp (own_z ((0 : Int64) < (((-va) + vb) + vc))) ((k1 &&& q1) &&& q2))) ||| (own_kp (own_z ((0 : Int64) < (((-va) + vb) - vc))) ((k1 &&& q1) &&& k3))) ||| (own_kp (own_z ((0 : Int64) < (((-va) - vb) + vc))) ((k1 &&& k2) &&& q2))))])) (fun t kt => ?_) ?_
  · by_cases hc296_21 : (0 : Int64) < (((-va) - vb) - vc)
    · show Steps p.tables e below (T20.setTop (mkF m 296 #[.val (.long q0), .second, .val (.long q1), .second, .val (.long q2), .second, .val (.long q3), .second, .val (.long q4), .second, .val (.long q5), .second, .val (.long va), .second, .val (.long vb), .second, .val (.long vc), .second, .val (.ref b1), .val (.long (own_fp 64 f3)), .second, .val (.long k1), .second, .val (.long k2), .second, .val (.long k3), .second, .unset, .unset] [(.int (lcmpW (((-va) - vb) - vc) (0 : Int64))), (.long (((((((own_kp (own_z ((0 : Int64) < ((va + vb) + vc))) ((q0 &&& q1) &&& q2)) ||| (own_kp (own_z ((0 : Int64) < ((va + vb) - vc))) ((q0 &&& q1) &&& k3))) ||| (own_kp (own_z ((0 : Int64) < ((va - vb) + vc))) ((q0 &&& k2) &&& q2))) ||| (own_kp (own_z ((0 : Int64) < ((va - vb) - vc))) ((q0 &&& k2) &&& k3))) ||| (own_kp (own_z ((0 : Int64) < (((-va) + vb) + vc))) ((k1 &&& q1) &&& q2))) ||| (own_kp (own_z ((0 : Int64) < (((-va) + vb) - vc))) ((k1 &&& q1) &&& k3))) ||| (own_kp (own_z ((0 : Int64) < (((-va) - vb) + vc))) ((k1 &&& k2) &&& q2))))])) t
      refine XS.ifNo X20.here hx rfl (hb hby at_296) rfl (own_lN_le hc296_21) ?_
      show Steps p.tables e below (T20.setTop (mkF m 299 #[.val (.long q0), .second, .val (.long q1), .second, .val (.long q2), .second, .val (.long q3), .second, .val (.long q4), .second, .val (.long q5), .second, .val (.long va), .second, .val (.long vb), .second, .val (.long vc), .second, .val (.ref b1), .val (.long (own_fp 64 f3)), .second, .val (.long k1), .second, .val (.long k2), .second, .val (.long k3), .second, .unset, .unset] [(.long (((((((own_kp (own_z ((0 : Int64) < ((va + vb) + vc))) ((q0 &&& q1) &&& q2)) ||| (own_kp (own_z ((0 : Int64) < ((va + vb) - vc))) ((q0 &&& q1) &&& k3))) ||| (own_kp (own_z ((0 : Int64) < ((va - vb) + vc))) ((q0 &&& k2) &&& q2))) ||| (own_kp (own_z ((0 : Int64) < ((va - vb) - vc))) ((q0 &&& k2) &&& k3))) ||| (own_kp (own_z ((0 : Int64) < (((-va) + vb) + vc))) ((k1 &&& q1) &&& q2))) ||| (own_kp (own_z ((0 : Int64) < (((-va) + vb) - vc))) ((k1 &&& q1) &&& k3))) ||| (own_kp (own_z ((0 : Int64) < (((-va) - vb) + vc))) ((k1 &&& k2) &&& q2))))])) t
      refine XS.iconst X20.here hx rfl (hb hby at_299) ?_
      show Steps p.tables e below (T20.setTop (mkF m 300 #[.val (.long q0), .second, .val (.long q1), .second, .val (.long q2), .second, .val (.long q3), .second, .val (.long q4), .second, .val (.long q5), .second, .val (.long va), .second, .val (.long vb), .second, .val (.long vc), .second, .val (.ref b1), .val (.long (own_fp 64 f3)), .second, .val (.long k1), .second, .val (.long k2), .second, .val (.long k3), .second, .unset, .unset] [(.int (1 : Int32)), (.long (((((((own_kp (own_z ((0 : Int64) < ((va + vb) + vc))) ((q0 &&& q1) &&& q2)) ||| (own_kp (own_z ((0 : Int64) < ((va + vb) - vc))) ((q0 &&& q1) &&& k3))) ||| (own_kp (own_z ((0 : Int64) < ((va - vb) + vc))) ((q0 &&& k2) &&& q2))) ||| (own_kp (own_z ((0 : Int64) < ((va - vb) - vc))) ((q0 &&& k2) &&& k3))) ||| (own_kp (own_z ((0 : Int64) < (((-va) + vb) + vc))) ((k1 &&& q1) &&& q2))) ||| (own_kp (own_z ((0 : Int64) < (((-va) + vb) - vc))) ((k1 &&& q1) &&& k3))) ||| (own_kp (own_z ((0 : Int64) < (((-va) - vb) + vc))) ((k1 &&& k2) &&& q2))))])) t
      refine XS.goto X20.here hx rfl (pc0 := 300) (pc' := 304) rfl (hb hby at_300) (by decide) (by decide) ?_
      show Steps p.tables e below (T20.setTop (mkF m 304 #[.val (.long q0), .second, .val (.long q1), .second, .val (.long q2), .second, .val (.long q3), .second, .val (.long q4), .second, .val (.long q5), .second, .val (.long va), .second, .val (.long vb), .second, .val (.long vc), .second, .val (.ref b1), .val (.long (own_fp 64 f3)), .second, .val (.long k1), .second, .val (.long k2), .second, .val (.long k3), .second, .unset, .unset] [(.int (1 : Int32)), (.long (((((((own_kp (own_z ((0 : Int64) < ((va + vb) + vc))) ((q0 &&& q1) &&& q2)) ||| (own_kp (own_z ((0 : Int64) < ((va + vb) - vc))) ((q0 &&& q1) &&& k3))) ||| (own_kp (own_z ((0 : Int64) < ((va - vb) + vc))) ((q0 &&& k2) &&& q2))) ||| (own_kp (own_z ((0 : Int64) < ((va - vb) - vc))) ((q0 &&& k2) &&& k3))) ||| (own_kp (own_z ((0 : Int64) < (((-va) + vb) + vc))) ((k1 &&& q1) &&& q2))) ||| (own_kp (own_z ((0 : Int64) < (((-va) + vb) - vc))) ((k1 &&& q1) &&& k3))) ||| (own_kp (own_z ((0 : Int64) < (((-va) - vb) + vc))) ((k1 &&& k2) &&& q2))))])) t
      rw [own_z_t hc296_21] at kt
      exact kt
    · show Steps p.tables e below (T20.setTop (mkF m 296 #[.val (.long q0), .second, .val (.long q1), .second, .val (.long q2), .second, .val (.long q3), .second, .val (.long q4), .second, .val (.long q5), .second, .val (.long va), .second, .val (.long vb), .second, .val (.long vc), .second, .val (.ref b1), .val (.long (own_fp 64 f3)), .second, .val (.long k1), .second, .val (.long k2), .second, .val (.long k3), .second, .unset, .unset] [(.int (lcmpW (((-va) - vb) - vc) (0 : Int64))), (.long (((((((own_kp (own_z ((0 : Int64) < ((va + vb) + vc))) ((q0 &&& q1) &&& q2)) ||| (own_kp (own_z ((0 : Int64) < ((va + vb) - vc))) ((q0 &&& q1) &&& k3))) ||| (own_kp (own_z ((0 : Int64) < ((va - vb) + vc))) ((q0 &&& k2) &&& q2))) ||| (own_kp (own_z ((0 : Int64) < ((va - vb) - vc))) ((q0 &&& k2) &&& k3))) ||| (own_kp (own_z ((0 : Int64) < (((-va) + vb) + vc))) ((k1 &&& q1) &&& q2))) ||| (own_kp (own_z ((0 : Int64) < (((-va) + vb) - vc))) ((k1 &&& q1) &&& k3))) ||| (own_kp (own_z ((0 : Int64) < (((-va) - vb) + vc))) ((k1 &&& k2) &&& q2))))])) t
      refine XS.ifYes X20.here hx rfl (pc0 := 296) (pc' := 303) rfl (hb hby at_296) rfl (own_lY_le hc296_21) (by decide) (by decide) ?_
      show Steps p.tables e below (T20.setTop (mkF m 303 #[.val (.long q0), .second, .val (.long q1), .second, .val (.long q2), .second, .val (.long q3), .second, .val (.long q4), .second, .val (.long q5), .second, .val (.long va), .second, .val (.long vb), .second, .val (.long vc), .second, .val (.ref b1), .val (.long (own_fp 64 f3)), .second, .val (.long k1), .second, .val (.long k2), .second, .val (.long k3), .second, .unset, .unset] [(.long (((((((own_kp (own_z ((0 : Int64) < ((va + vb) + vc))) ((q0 &&& q1) &&& q2)) ||| (own_kp (own_z ((0 : Int64) < ((va + vb) - vc))) ((q0 &&& q1) &&& k3))) ||| (own_kp (own_z ((0 : Int64) < ((va - vb) + vc))) ((q0 &&& k2) &&& q2))) ||| (own_kp (own_z ((0 : Int64) < ((va - vb) - vc))) ((q0 &&& k2) &&& k3))) ||| (own_kp (own_z ((0 : Int64) < (((-va) + vb) + vc))) ((k1 &&& q1) &&& q2))) ||| (own_kp (own_z ((0 : Int64) < (((-va) + vb) - vc))) ((k1 &&& q1) &&& k3))) ||| (own_kp (own_z ((0 : Int64) < (((-va) - vb) + vc))) ((k1 &&& k2) &&& q2))))])) t
      refine XS.iconst X20.here hx rfl (hb hby at_303) ?_
      show Steps p.tables e below (T20.setTop (mkF m 304 #[.val (.long q0), .second, .val (.long q1), .second, .val (.long q2), .second, .val (.long q3), .second, .val (.long q4), .second, .val (.long q5), .second, .val (.long va), .second, .val (.long vb), .second, .val (.long vc), .second, .val (.ref b1), .val (.long (own_fp 64 f3)), .second, .val (.long k1), .second, .val (.long k2), .second, .val (.long k3), .second, .unset, .unset] [(.int (0 : Int32)), (.long (((((((own_kp (own_z ((0 : Int64) < ((va + vb) + vc))) ((q0 &&& q1) &&& q2)) ||| (own_kp (own_z ((0 : Int64) < ((va + vb) - vc))) ((q0 &&& q1) &&& k3))) ||| (own_kp (own_z ((0 : Int64) < ((va - vb) + vc))) ((q0 &&& k2) &&& q2))) ||| (own_kp (own_z ((0 : Int64) < ((va - vb) - vc))) ((q0 &&& k2) &&& k3))) ||| (own_kp (own_z ((0 : Int64) < (((-va) + vb) + vc))) ((k1 &&& q1) &&& q2))) ||| (own_kp (own_z ((0 : Int64) < (((-va) + vb) - vc))) ((k1 &&& q1) &&& k3))) ||| (own_kp (own_z ((0 : Int64) < (((-va) - vb) + vc))) ((k1 &&& k2) &&& q2))))])) t
      rw [own_z_f hc296_21] at kt
      exact kt
  refine own_go (T' := T20) (f' := (mkF m 312 #[.val (.long q0), .second, .val (.long q1), .second, .val (.long q2), .second, .val (.long q3), .second, .val (.long q4), .second, .val (.long q5), .second, .val (.long va), .second, .val (.long vb), .second, .val (.long vc), .second, .val (.ref b1), .val (.long (own_fp 64 f3)), .second, .val (.long k1), .second, .val (.long k2), .second, .val (.long k3), .second, .unset, .unset] [(.long ((k1 &&& k2) &&& k3)), (.int (own_z ((0 : Int64) < (((-va) - vb) - vc)))), (.long (((((((own_kp (own_z ((0 : Int64) < ((va + vb) + vc))) ((q0 &&& q1) &&& q2)) ||| (own_kp (own_z ((0 : Int64) < ((va + vb) - vc))) ((q0 &&& q1) &&& k3))) ||| (own_kp (own_z ((0 : Int64) < ((va - vb) + vc))) ((q0 &&& k2) &&& q2))) ||| (own_kp (own_z ((0 : Int64) < ((va - vb) - vc))) ((q0 &&& k2) &&& k3))) ||| (own_kp (own_z ((0 : Int64) < (((-va) + vb) + vc))) ((k1 &&& q1) &&& q2))) ||| (own_kp (own_z ((0 : Int64) < (((-va) + vb) - vc))) ((k1 &&& q1) &&& k3))) ||| (own_kp (own_z ((0 : Int64) < (((-va) - vb) + vc))) ((k1 &&& k2) &&& q2))))])) (fun t kt => ?_) ?_
  · show Steps p.tables e below (T20.setTop (mkF m 304 #[.val (.long q0), .second, .val (.long q1), .second, .val (.long q2), .second, .val (.long q3), .second, .val (.long q4), .second, .val (.long q5), .second, .val (.long va), .second, .val (.long vb), .second, .val (.long vc), .second, .val (.ref b1), .val (.long (own_fp 64 f3)), .second, .val (.long k1), .second, .val (.long k2), .second, .val (.long k3), .second, .unset, .unset] [(.int (own_z ((0 : Int64) < (((-va) - vb) - vc)))), (.long (((((((own_kp (own_z ((0 : Int64) < ((va + vb) + vc))) ((q0 &&& q1) &&& q2)) ||| (own_kp (own_z ((0 : Int64) < ((va + vb) - vc))) ((q0 &&& q1) &&& k3))) ||| (own_kp (own_z ((0 : Int64) < ((va - vb) + vc))) ((q0 &&& k2) &&& q2))) ||| (own_kp (own_z ((0 : Int64) < ((va - vb) - vc))) ((q0 &&& k2) &&& k3))) ||| (own_kp (own_z ((0 : Int64) < (((-va) + vb) + vc))) ((k1 &&& q1) &&& q2))) ||| (own_kp (own_z ((0 : Int64) < (((-va) + vb) - vc))) ((k1 &&& q1) &&& k3))) ||| (own_kp (own_z ((0 : Int64) < (((-va) - vb) + vc))) ((k1 &&& k2) &&& q2))))])) t
    refine XS.lload X20.here hx rfl (hb hby at_304) rfl ?_
    show Steps p.tables e below (T20.setTop (mkF m 306 #[.val (.long q0), .second, .val (.long q1), .second, .val (.long q2), .second, .val (.long q3), .second, .val (.long q4), .second, .val (.long q5), .second, .val (.long va), .second, .val (.long vb), .second, .val (.long vc), .second, .val (.ref b1), .val (.long (own_fp 64 f3)), .second, .val (.long k1), .second, .val (.long k2), .second, .val (.long k3), .second, .unset, .unset] [(.long k1), (.int (own_z ((0 : Int64) < (((-va) - vb) - vc)))), (.long (((((((own_kp (own_z ((0 : Int64) < ((va + vb) + vc))) ((q0 &&& q1) &&& q2)) ||| (own_kp (own_z ((0 : Int64) < ((va + vb) - vc))) ((q0 &&& q1) &&& k3))) ||| (own_kp (own_z ((0 : Int64) < ((va - vb) + vc))) ((q0 &&& k2) &&& q2))) ||| (own_kp (own_z ((0 : Int64) < ((va - vb) - vc))) ((q0 &&& k2) &&& k3))) ||| (own_kp (own_z ((0 : Int64) < (((-va) + vb) + vc))) ((k1 &&& q1) &&& q2))) ||| (own_kp (own_z ((0 : Int64) < (((-va) + vb) - vc))) ((k1 &&& q1) &&& k3))) ||| (own_kp (own_z ((0 : Int64) < (((-va) - vb) + vc))) ((k1 &&& k2) &&& q2))))])) t
    refine XS.lload X20.here hx rfl (hb hby at_306) rfl ?_
    show Steps p.tables e below (T20.setTop (mkF m 308 #[.val (.long q0), .second, .val (.long q1), .second, .val (.long q2), .second, .val (.long q3), .second, .val (.long q4), .second, .val (.long q5), .second, .val (.long va), .second, .val (.long vb), .second, .val (.long vc), .second, .val (.ref b1), .val (.long (own_fp 64 f3)), .second, .val (.long k1), .second, .val (.long k2), .second, .val (.long k3), .second, .unset, .unset] [(.long k2), (.long k1), (.int (own_z ((0 : Int64) < (((-va) - vb) - vc)))), (.long (((((((own_kp (own_z ((0 : Int64) < ((va + vb) + vc))) ((q0 &&& q1) &&& q2)) ||| (own_kp (own_z ((0 : Int64) < ((va + vb) - vc))) ((q0 &&& q1) &&& k3))) ||| (own_kp (own_z ((0 : Int64) < ((va - vb) + vc))) ((q0 &&& k2) &&& q2))) ||| (own_kp (own_z ((0 : Int64) < ((va - vb) - vc))) ((q0 &&& k2) &&& k3))) ||| (own_kp (own_z ((0 : Int64) < (((-va) + vb) + vc))) ((k1 &&& q1) &&& q2))) ||| (own_kp (own_z ((0 : Int64) < (((-va) + vb) - vc))) ((k1 &&& q1) &&& k3))) ||| (own_kp (own_z ((0 : Int64) < (((-va) - vb) + vc))) ((k1 &&& k2) &&& q2))))])) t
    refine XS.land X20.here hx rfl (hb hby at_308) rfl ?_
    show Steps p.tables e below (T20.setTop (mkF m 309 #[.val (.long q0), .second, .val (.long q1), .second, .val (.long q2), .second, .val (.long q3), .second, .val (.long q4), .second, .val (.long q5), .second, .val (.long va), .second, .val (.long vb), .second, .val (.long vc), .second, .val (.ref b1), .val (.long (own_fp 64 f3)), .second, .val (.long k1), .second, .val (.long k2), .second, .val (.long k3), .second, .unset, .unset] [(.long (k1 &&& k2)), (.int (own_z ((0 : Int64) < (((-va) - vb) - vc)))), (.long (((((((own_kp (own_z ((0 : Int64) < ((va + vb) + vc))) ((q0 &&& q1) &&& q2)) ||| (own_kp (own_z ((0 : Int64) < ((va + vb) - vc))) ((q0 &&& q1) &&& k3))) ||| (own_kp (own_z ((0 : Int64) < ((va - vb) + vc))) ((q0 &&& k2) &&& q2))) ||| (own_kp (own_z ((0 : Int64) < ((va - vb) - vc))) ((q0 &&& k2) &&& k3))) ||| (own_kp (own_z ((0 : Int64) < (((-va) + vb) + vc))) ((k1 &&& q1) &&& q2))) ||| (own_kp (own_z ((0 : Int64) < (((-va) + vb) - vc))) ((k1 &&& q1) &&& k3))) ||| (own_kp (own_z ((0 : Int64) < (((-va) - vb) + vc))) ((k1 &&& k2) &&& q2))))])) t
    refine XS.lload X20.here hx rfl (hb hby at_309) rfl ?_
    show Steps p.tables e below (T20.setTop (mkF m 311 #[.val (.long q0), .second, .val (.long q1), .second, .val (.long q2), .second, .val (.long q3), .second, .val (.long q4), .second, .val (.long q5), .second, .val (.long va), .second, .val (.long vb), .second, .val (.long vc), .second, .val (.ref b1), .val (.long (own_fp 64 f3)), .second, .val (.long k1), .second, .val (.long k2), .second, .val (.long k3), .second, .unset, .unset] [(.long k3), (.long (k1 &&& k2)), (.int (own_z ((0 : Int64) < (((-va) - vb) - vc)))), (.long (((((((own_kp (own_z ((0 : Int64) < ((va + vb) + vc))) ((q0 &&& q1) &&& q2)) ||| (own_kp (own_z ((0 : Int64) < ((va + vb) - vc))) ((q0 &&& q1) &&& k3))) ||| (own_kp (own_z ((0 : Int64) < ((va - vb) + vc))) ((q0 &&& k2) &&& q2))) ||| (own_kp (own_z ((0 : Int64) < ((va - vb) - vc))) ((q0 &&& k2) &&& k3))) ||| (own_kp (own_z ((0 : Int64) < (((-va) + vb) + vc))) ((k1 &&& q1) &&& q2))) ||| (own_kp (own_z ((0 : Int64) < (((-va) + vb) - vc))) ((k1 &&& q1) &&& k3))) ||| (own_kp (own_z ((0 : Int64) < (((-va) - vb) + vc))) ((k1 &&& k2) &&& q2))))])) t
    refine XS.land X20.here hx rfl (hb hby at_311) rfl ?_
    show Steps p.tables e below (T20.setTop (mkF m 312 #[.val (.long q0), .second, .val (.long q1), .second, .val (.long q2), .second, .val (.long q3), .second, .val (.long q4), .second, .val (.long q5), .second, .val (.long va), .second, .val (.long vb), .second, .val (.long vc), .second, .val (.ref b1), .val (.long (own_fp 64 f3)), .second, .val (.long k1), .second, .val (.long k2), .second, .val (.long k3), .second, .unset, .unset] [(.long ((k1 &&& k2) &&& k3)), (.int (own_z ((0 : Int64) < (((-va) - vb) - vc)))), (.long (((((((own_kp (own_z ((0 : Int64) < ((va + vb) + vc))) ((q0 &&& q1) &&& q2)) ||| (own_kp (own_z ((0 : Int64) < ((va + vb) - vc))) ((q0 &&& q1) &&& k3))) ||| (own_kp (own_z ((0 : Int64) < ((va - vb) + vc))) ((q0 &&& k2) &&& q2))) ||| (own_kp (own_z ((0 : Int64) < ((va - vb) - vc))) ((q0 &&& k2) &&& k3))) ||| (own_kp (own_z ((0 : Int64) < (((-va) + vb) + vc))) ((k1 &&& q1) &&& q2))) ||| (own_kp (own_z ((0 : Int64) < (((-va) + vb) - vc))) ((k1 &&& q1) &&& k3))) ||| (own_kp (own_z ((0 : Int64) < (((-va) - vb) + vc))) ((k1 &&& k2) &&& q2))))])) t
    exact kt
  refine own_callSp X20 hx hZ hown e20 (hw _ (List.mem_of_getElem? (i := 30) rfl)) (hw _ (List.mem_of_getElem? (i := 31) rfl)) (hw _ (List.mem_of_getElem? (i := 32) rfl)) (hw _ (List.mem_of_getElem? (i := 33) rfl)) (by decide) (rm7 l Z aw hw (own_z ((0 : Int64) < (((-va) - vb) - vc))) ((k1 &&& k2) &&& k3) T5.heap n0 ZKq5) (g := (mkF m 312 #[.val (.long q0), .second, .val (.long q1), .second, .val (.long q2), .second, .val (.long q3), .second, .val (.long q4), .second, .val (.long q5), .second, .val (.long va), .second, .val (.long vb), .second, .val (.long vc), .second, .val (.ref b1), .val (.long (own_fp 64 f3)), .second, .val (.long k1), .second, .val (.long k2), .second, .val (.long k3), .second, .unset, .unset] [(.long ((k1 &&& k2) &&& k3)), (.int (own_z ((0 : Int64) < (((-va) - vb) - vc)))), (.long (((((((own_kp (own_z ((0 : Int64) < ((va + vb) + vc))) ((q0 &&& q1) &&& q2)) ||| (own_kp (own_z ((0 : Int64) < ((va + vb) - vc))) ((q0 &&& q1) &&& k3))) ||| (own_kp (own_z ((0 : Int64) < ((va - vb) + vc))) ((q0 &&& k2) &&& q2))) ||| (own_kp (own_z ((0 : Int64) < ((va - vb) - vc))) ((q0 &&& k2) &&& k3))) ||| (own_kp (own_z ((0 : Int64) < (((-va) + vb) + vc))) ((k1 &&& q1) &&& q2))) ||| (own_kp (own_z ((0 : Int64) < (((-va) + vb) - vc))) ((k1 &&& q1) &&& k3))) ||| (own_kp (own_z ((0 : Int64) < (((-va) - vb) + vc))) ((k1 &&& k2) &&& q2))))])) rfl (by rw [hml]; rfl) (argsL := [(.int (own_z ((0 : Int64) < (((-va) - vb) - vc)))), (.long ((k1 &&& k2) &&& k3))]) (rest := [(.long (((((((own_kp (own_z ((0 : Int64) < ((va + vb) + vc))) ((q0 &&& q1) &&& q2)) ||| (own_kp (own_z ((0 : Int64) < ((va + vb) - vc))) ((q0 &&& q1) &&& k3))) ||| (own_kp (own_z ((0 : Int64) < ((va - vb) + vc))) ((q0 &&& k2) &&& q2))) ||| (own_kp (own_z ((0 : Int64) < ((va - vb) - vc))) ((q0 &&& k2) &&& k3))) ||| (own_kp (own_z ((0 : Int64) < (((-va) + vb) + vc))) ((k1 &&& q1) &&& q2))) ||| (own_kp (own_z ((0 : Int64) < (((-va) + vb) - vc))) ((k1 &&& q1) &&& k3))) ||| (own_kp (own_z ((0 : Int64) < (((-va) - vb) + vc))) ((k1 &&& k2) &&& q2))))]) (lenOf pd_4 rfl) rfl rfl (W := 2) (by show 2 * 0 + _ ≤ _; exact Nat.le_of_eq rfl) (hb hby at_312) (by decide) (by decide) (by decide) (by decide) ?_
  intro T22 X22 e22
  refine own_go (T' := T22) (f' := (mkF m 316 #[.val (.long q0), .second, .val (.long q1), .second, .val (.long q2), .second, .val (.long q3), .second, .val (.long q4), .second, .val (.long q5), .second, .val (.long va), .second, .val (.long vb), .second, .val (.long vc), .second, .val (.ref b1), .val (.long (own_fp 64 f3)), .second, .val (.long k1), .second, .val (.long k2), .second, .val (.long k3), .second, .unset, .unset] [(.long ((((((((own_kp (own_z ((0 : Int64) < ((va + vb) + vc))) ((q0 &&& q1) &&& q2)) ||| (own_kp (own_z ((0 : Int64) < ((va + vb) - vc))) ((q0 &&& q1) &&& k3))) ||| (own_kp (own_z ((0 : Int64) < ((va - vb) + vc))) ((q0 &&& k2) &&& q2))) ||| (own_kp (own_z ((0 : Int64) < ((va - vb) - vc))) ((q0 &&& k2) &&& k3))) ||| (own_kp (own_z ((0 : Int64) < (((-va) + vb) + vc))) ((k1 &&& q1) &&& q2))) ||| (own_kp (own_z ((0 : Int64) < (((-va) + vb) - vc))) ((k1 &&& q1) &&& k3))) ||| (own_kp (own_z ((0 : Int64) < (((-va) - vb) + vc))) ((k1 &&& k2) &&& q2))) ||| (own_kp (own_z ((0 : Int64) < (((-va) - vb) - vc))) ((k1 &&& k2) &&& k3))))])) (fun t kt => ?_) ?_
  · show Steps p.tables e below (T22.setTop (mkF m 315 #[.val (.long q0), .second, .val (.long q1), .second, .val (.long q2), .second, .val (.long q3), .second, .val (.long q4), .second, .val (.long q5), .second, .val (.long va), .second, .val (.long vb), .second, .val (.long vc), .second, .val (.ref b1), .val (.long (own_fp 64 f3)), .second, .val (.long k1), .second, .val (.long k2), .second, .val (.long k3), .second, .unset, .unset] [(.long (own_kp (own_z ((0 : Int64) < (((-va) - vb) - vc))) ((k1 &&& k2) &&& k3))), (.long (((((((own_kp (own_z ((0 : Int64) < ((va + vb) + vc))) ((q0 &&& q1) &&& q2)) ||| (own_kp (own_z ((0 : Int64) < ((va + vb) - vc))) ((q0 &&& q1) &&& k3))) ||| (own_kp (own_z ((0 : Int64) < ((va - vb) + vc))) ((q0 &&& k2) &&& q2))) ||| (own_kp (own_z ((0 : Int64) < ((va - vb) - vc))) ((q0 &&& k2) &&& k3))) ||| (own_kp (own_z ((0 : Int64) < (((-va) + vb) + vc))) ((k1 &&& q1) &&& q2))) ||| (own_kp (own_z ((0 : Int64) < (((-va) + vb) - vc))) ((k1 &&& q1) &&& k3))) ||| (own_kp (own_z ((0 : Int64) < (((-va) - vb) + vc))) ((k1 &&& k2) &&& q2))))])) t
    refine XS.lor X22.here hx rfl (hb hby at_315) rfl ?_
    show Steps p.tables e below (T22.setTop (mkF m 316 #[.val (.long q0), .second, .val (.long q1), .second, .val (.long q2), .second, .val (.long q3), .second, .val (.long q4), .second, .val (.long q5), .second, .val (.long va), .second, .val (.long vb), .second, .val (.long vc), .second, .val (.ref b1), .val (.long (own_fp 64 f3)), .second, .val (.long k1), .second, .val (.long k2), .second, .val (.long k3), .second, .unset, .unset] [(.long ((((((((own_kp (own_z ((0 : Int64) < ((va + vb) + vc))) ((q0 &&& q1) &&& q2)) ||| (own_kp (own_z ((0 : Int64) < ((va + vb) - vc))) ((q0 &&& q1) &&& k3))) ||| (own_kp (own_z ((0 : Int64) < ((va - vb) + vc))) ((q0 &&& k2) &&& q2))) ||| (own_kp (own_z ((0 : Int64) < ((va - vb) - vc))) ((q0 &&& k2) &&& k3))) ||| (own_kp (own_z ((0 : Int64) < (((-va) + vb) + vc))) ((k1 &&& q1) &&& q2))) ||| (own_kp (own_z ((0 : Int64) < (((-va) + vb) - vc))) ((k1 &&& q1) &&& k3))) ||| (own_kp (own_z ((0 : Int64) < (((-va) - vb) + vc))) ((k1 &&& k2) &&& q2))) ||| (own_kp (own_z ((0 : Int64) < (((-va) - vb) - vc))) ((k1 &&& k2) &&& k3))))])) t
    exact kt
  obtain ⟨ex, hex⟩ : ∃ z, z = ((((((((own_kp (own_z ((0 : Int64) < ((va + vb) + vc))) ((q0 &&& q1) &&& q2)) ||| (own_kp (own_z ((0 : Int64) < ((va + vb) - vc))) ((q0 &&& q1) &&& k3))) ||| (own_kp (own_z ((0 : Int64) < ((va - vb) + vc))) ((q0 &&& k2) &&& q2))) ||| (own_kp (own_z ((0 : Int64) < ((va - vb) - vc))) ((q0 &&& k2) &&& k3))) ||| (own_kp (own_z ((0 : Int64) < (((-va) + vb) + vc))) ((k1 &&& q1) &&& q2))) ||| (own_kp (own_z ((0 : Int64) < (((-va) + vb) - vc))) ((k1 &&& q1) &&& k3))) ||| (own_kp (own_z ((0 : Int64) < (((-va) - vb) + vc))) ((k1 &&& k2) &&& q2))) ||| (own_kp (own_z ((0 : Int64) < (((-va) - vb) - vc))) ((k1 &&& k2) &&& k3))) := ⟨_, rfl⟩
  rw [← hex]
  refine own_go (T' := T22) (f' := (mkF m 331 #[.val (.long q0), .second, .val (.long q1), .second, .val (.long q2), .second, .val (.long q3), .second, .val (.long q4), .second, .val (.long q5), .second, .val (.long va), .second, .val (.long vb), .second, .val (.long vc), .second, .val (.ref b1), .val (.long (own_fp 64 f3)), .second, .val (.long k1), .second, .val (.long k2), .second, .val (.long k3), .second, .val (.long ex), .second] [(.int (1 : Int32))])) (fun t kt => ?_) ?_
  · show Steps p.tables e below (T22.setTop (mkF m 316 #[.val (.long q0), .second, .val (.long q1), .second, .val (.long q2), .second, .val (.long q3), .second, .val (.long q4), .second, .val (.long q5), .second, .val (.long va), .second, .val (.long vb), .second, .val (.long vc), .second, .val (.ref b1), .val (.long (own_fp 64 f3)), .second, .val (.long k1), .second, .val (.long k2), .second, .val (.long k3), .second, .unset, .unset] [(.long ex)])) t
    refine XS.lstore X22.here hx rfl (hb hby at_316) rfl (l' := #[.val (.long q0), .second, .val (.long q1), .second, .val (.long q2), .second, .val (.long q3), .second, .val (.long q4), .second, .val (.long q5), .second, .val (.long va), .second, .val (.long vb), .second, .val (.long vc), .second, .val (.ref b1), .val (.long (own_fp 64 f3)), .second, .val (.long k1), .second, .val (.long k2), .second, .val (.long k3), .second, .val (.long ex), .second]) rfl ?_
    show Steps p.tables e below (T22.setTop (mkF m 318 #[.val (.long q0), .second, .val (.long q1), .second, .val (.long q2), .second, .val (.long q3), .second, .val (.long q4), .second, .val (.long q5), .second, .val (.long va), .second, .val (.long vb), .second, .val (.long vc), .second, .val (.ref b1), .val (.long (own_fp 64 f3)), .second, .val (.long k1), .second, .val (.long k2), .second, .val (.long k3), .second, .val (.long ex), .second] [])) t
    refine XS.lload X22.here hx rfl (hb hby at_318) rfl ?_
    show Steps p.tables e below (T22.setTop (mkF m 320 #[.val (.long q0), .second, .val (.long q1), .second, .val (.long q2), .second, .val (.long q3), .second, .val (.long q4), .second, .val (.long q5), .second, .val (.long va), .second, .val (.long vb), .second, .val (.long vc), .second, .val (.ref b1), .val (.long (own_fp 64 f3)), .second, .val (.long k1), .second, .val (.long k2), .second, .val (.long k3), .second, .val (.long ex), .second] [(.long (own_fp 64 f3))])) t
    refine XS.lload X22.here hx rfl (hb hby at_320) rfl ?_
    show Steps p.tables e below (T22.setTop (mkF m 322 #[.val (.long q0), .second, .val (.long q1), .second, .val (.long q2), .second, .val (.long q3), .second, .val (.long q4), .second, .val (.long q5), .second, .val (.long va), .second, .val (.long vb), .second, .val (.long vc), .second, .val (.ref b1), .val (.long (own_fp 64 f3)), .second, .val (.long k1), .second, .val (.long k2), .second, .val (.long k3), .second, .val (.long ex), .second] [(.long ex), (.long (own_fp 64 f3))])) t
    refine XS.lcmp X22.here hx rfl (hb hby at_322) rfl ?_
    show Steps p.tables e below (T22.setTop (mkF m 323 #[.val (.long q0), .second, .val (.long q1), .second, .val (.long q2), .second, .val (.long q3), .second, .val (.long q4), .second, .val (.long q5), .second, .val (.long va), .second, .val (.long vb), .second, .val (.long vc), .second, .val (.ref b1), .val (.long (own_fp 64 f3)), .second, .val (.long k1), .second, .val (.long k2), .second, .val (.long k3), .second, .val (.long ex), .second] [(.int (lcmpW (own_fp 64 f3) ex))])) t
    refine XS.ifNo X22.here hx rfl (hb hby at_323) rfl (own_lN_ne (show (own_fp 64 f3) = ex from own_fin hf1 hf2 hf3 hk1 hk2 hk3 hex)) ?_
    show Steps p.tables e below (T22.setTop (mkF m 326 #[.val (.long q0), .second, .val (.long q1), .second, .val (.long q2), .second, .val (.long q3), .second, .val (.long q4), .second, .val (.long q5), .second, .val (.long va), .second, .val (.long vb), .second, .val (.long vc), .second, .val (.ref b1), .val (.long (own_fp 64 f3)), .second, .val (.long k1), .second, .val (.long k2), .second, .val (.long k3), .second, .val (.long ex), .second] [])) t
    refine XS.iconst X22.here hx rfl (hb hby at_326) ?_
    show Steps p.tables e below (T22.setTop (mkF m 327 #[.val (.long q0), .second, .val (.long q1), .second, .val (.long q2), .second, .val (.long q3), .second, .val (.long q4), .second, .val (.long q5), .second, .val (.long va), .second, .val (.long vb), .second, .val (.long vc), .second, .val (.ref b1), .val (.long (own_fp 64 f3)), .second, .val (.long k1), .second, .val (.long k2), .second, .val (.long k3), .second, .val (.long ex), .second] [(.int (1 : Int32))])) t
    refine XS.goto X22.here hx rfl (pc0 := 327) (pc' := 331) rfl (hb hby at_327) (by decide) (by decide) ?_
    show Steps p.tables e below (T22.setTop (mkF m 331 #[.val (.long q0), .second, .val (.long q1), .second, .val (.long q2), .second, .val (.long q3), .second, .val (.long q4), .second, .val (.long q5), .second, .val (.long va), .second, .val (.long vb), .second, .val (.long vc), .second, .val (.ref b1), .val (.long (own_fp 64 f3)), .second, .val (.long k1), .second, .val (.long k2), .second, .val (.long k3), .second, .val (.long ex), .second] [(.int (1 : Int32))])) t
    exact kt
  exact own_retN X22 hP hx hlk e22 (t := .boolean) hret (by simp) (hb hby at_331) (by decide) (by decide) (z' := (1 : Int32)) rfl ⟨rfl, N5⟩
set_option maxRecDepth 65536 in
set_option maxHeartbeats 40000000 in
theorem comes_1 {Post : Tables → Env → Array Value → State → Outcome → State → Prop} (hpost : ∀ tb e args s v u, (limb_1_1.after args s (.returned v) u = true ∧ limb_1_2.after args s (.returned v) u = true ∧ True) → FrameEnd s (.returned v) u (Jvm.fieldLocs frame_1_writes args s ++ Jvm.arrayLocs frame_1_arrays args s ++ Jvm.staticLocs frame_1_statics s) 16 256 → Post tb e args s (.returned v) u) :
    ArmFor flags0 classFile x code maxLocals ret World_1 tables_1 room_1 Calls_1 rest_1 Pre_1 Post := by
  intro l hfl _ _ p e ha hc hk s m args below hf hA hF happ hP
  obtain ⟨hcalls, hrest, hpre⟩ := hP
  obtain ⟨-, -, -, hnamed, -, -, -, hat⟩ := (Spec.applies_iff hf).mp happ
  obtain ⟨hg, hn⟩ := and_e (Cond.before_iff.mp (show (Jvm.Cond.and given_1 narrow_1).before args s = true from hpre))
  obtain ⟨k1, k2⟩ := and_e hg
  obtain ⟨k3, k4⟩ := and_e k2
  obtain ⟨k5, k6⟩ := and_e k4
  obtain ⟨k7, k8⟩ := and_e k6
  obtain ⟨k9, k10⟩ := and_e k8
  obtain ⟨k11, k12⟩ := and_e k10
  obtain ⟨w0, w1, w2, w3, w4, w5, rfl⟩ : ∃ w0 w1 w2 w3 w4 w5 : Value, args = #[w0, w1, w2, w3, w4, w5] := by
    have hs : args.size = 6 := by simpa [Cond.value, given_1] using k1
    obtain ⟨L⟩ := args
    match L, hs with
    | [w0, w1, w2, w3, w4, w5], _ => exact ⟨w0, w1, w2, w3, w4, w5, rfl⟩
  have hw := fun d (hd : d ∈ tables_1) => atoms_spec (ws := Jvm.Cond.code x code maxLocals ret :: tables_1) hat d (List.mem_cons_of_mem _ hd)
  obtain ⟨i0, ei0⟩ := isL_v k3
  obtain rfl : w0 = (.long i0) := Option.some.inj ei0
  obtain ⟨i1, ei1⟩ := isL_v k5
  obtain rfl : w1 = (.long i1) := Option.some.inj ei1
  obtain ⟨i2, ei2⟩ := isL_v k7
  obtain rfl : w2 = (.long i2) := Option.some.inj ei2
  obtain ⟨i3, ei3⟩ := isL_v k9
  obtain rfl : w3 = (.long i3) := Option.some.inj ei3
  obtain ⟨i4, ei4⟩ := isL_v k11
  obtain rfl : w4 = (.long i4) := Option.some.inj ei4
  obtain ⟨i5, ei5⟩ := isL_v k12
  obtain rfl : w5 = (.long i5) := Option.some.inj ei5
  obtain ⟨n, o, h1, h2, h3, _, L, rfl, ⟨rfl, N⟩, hq⟩ := rm0 l s _ hw (ws := tables_1) i0 i1 i2 i3 i4 i5 s.heap s.heap.size (Nat.le_refl _)  p e ha hc hk s m _ below hf ((Spec.applies_iff_loose hf).mp happ).1 ⟨rfl, State.Warmed39.refl s, rfl⟩ trivial
  refine ⟨n, _, h1, h2, h3, hpost _ _ _ _ _ _ ⟨Cond.after_iff.mpr rfl, Cond.after_iff.mpr (eq_i res_at (Term.int_eval (1)) rfl), trivial⟩ ⟨hq.1, hq.2.1, (hq.2.2.sift fun y hy => Or.inr (N y hy)).mono (by decide) (by decide)⟩⟩
theorem main_1_1 : Claimed_1_1 := comes_1 fun _ _ _ _ _ _ h hF => ⟨h.1, hF⟩
theorem main_1_2 : Claimed_1_2 := comes_1 fun _ _ _ _ _ _ h hF => ⟨h.2.1, hF⟩
end Jvm.Pilot.@@N@@
namespace Jvm.Pilot.@@N@@
open Jvm Jvm.ClassFile Sem Op Lib Jvm.Free Jvm.Stand Jvm.Pilot.@@N@@.Jvm.D
/-! MADE BY PROGRAM (witnessworld.py) out of the Statement's table words and the real class files: 12 classes; the members and pool entries that the words name. The judged class is class 1, her method 2. -/
namespace start1
open Jvm.ClassFile
def u (s : String) : CpInfo := .utf8 (stringToUtf16 s)
/-- a pool by its gaps: so many unusable entries, then the entry; so many at the end -/
def gap : Nat → List CpInfo → List CpInfo
  | 0, r => r
  | n + 1, r => .unusable :: gap n r
def poolList (es : List (Nat × CpInfo)) (last : Nat) : List CpInfo := es.foldr (fun e r => gap e.1 (e.2 :: r)) (gap last [])
def pool (es : List (Nat × CpInfo)) (last : Nat) : Array CpInfo := ⟨poolList es last⟩
def fileOf (pool : Array CpInfo) (this : Nat) (attrs : Array Attribute := #[]) (ms : Array MethodInfo := #[]) (fl : Nat := 33) (sup : Nat := 0) (ifs : Array Nat := #[]) (fds : Array FieldInfo := #[]) : ClassFile where
  minorVersion := 0
  majorVersion := 65
  constantPool := pool
  accessFlags := fl
  thisClass := this
  superClass := sup
  interfaces := ifs
  fields := fds
  methods := ms
  attributes := attrs
def plain (name : String) (sup : Option ClassId) : Class where
  name := name
  kind := .ordinary
  loader := none
  accessFlags := 33
  super := sup
  interfaces := #[]
  cf := none
  fields := #[]
  methods := #[]
  instanceTypes := #[]
  staticTypes := #[]
  resolved := #[]
  callSites := []
  init := .initialized
  statics := none
  mirror := none

def pool0 : Array CpInfo := pool [(5, u "<init>"), (0, u "()V"), (1, .class_ 10), (1, u "java/lang/Object")] 113

def k0c0 : Code := { maxStack := 0, maxLocals := 1, code := object_method_1_code, exceptionTable := #[], attributes := #[] }
def k0m0 : Method := { name := "<init>", desc := "()V", sig := { parameters := [], returnType := none }, accessFlags := 1, code := some k0c0 }
/-- java/lang/Object -/
def k0 : Class := { plain "java/lang/Object" none with
  accessFlags := 33
  interfaces := #[]
  cf := some (fileOf pool0 8 #[] #[{ accessFlags := 1, nameIndex := 5, descriptorIndex := 6, attributes := #[] }] 33 0 #[] #[])
  fields := #[]
  methods := #[k0m0]
  instanceTypes := #[]
  staticTypes := #[]
  resolved := Array.replicate 124 none
  statics := none }

def pool1 : Array CpInfo := pool [(2, .class_ 4), (0, .nameAndType 5 6), (0, u "java/lang/Object"), (0, u "<init>"), (0, u "()V"), (0, .class_ 8), (0, u "com/example/resemblr/resemblr/SimHash"), (0, .methodref 7 3), (0, .methodref 7 11), (0, .nameAndType 12 13), (0, u "add"), (0, u "(JJ)V"), (0, .methodref 7 15), (0, .nameAndType 16 17), (0, u "fingerprint"), (0, u "()J"), (0, .long 18446744073709551615), (1, .methodref 21 22), (0, .class_ 23), (0, .nameAndType 24 25), (0, u "com/example/resemblr/resemblr/SimHashFingerprintPinLaw"), (0, u "keep"), (0, u "(ZJ)J"), (3, u "law"), (0, u "(JJJJJJ)Z")] 2

def k1m0 : Method := { name := "<init>", desc := "()V", sig := { parameters := [], returnType := none }, accessFlags := 2, code := none }
def k1c1 : Code := { maxStack := 2, maxLocals := 3, code := method_2_code, exceptionTable := #[], attributes := #[] }
def k1m1 : Method := { name := "keep", desc := "(ZJ)J", sig := { parameters := [.boolean, .long], returnType := some .long }, accessFlags := 10, code := some k1c1 }
def k1c2 : Code := { maxStack := 7, maxLocals := 29, code := code, exceptionTable := #[], attributes := #[] }
def k1m2 : Method := { name := "law", desc := "(JJJJJJ)Z", sig := { parameters := [.long, .long, .long, .long, .long, .long], returnType := some .boolean }, accessFlags := 9, code := some k1c2 }
/-- com/example/resemblr/resemblr/SimHashFingerprintPinLaw -/
def k1 : Class := { plain "com/example/resemblr/resemblr/SimHashFingerprintPinLaw" (some 0) with
  accessFlags := 49
  interfaces := #[]
  cf := some (fileOf pool1 21 #[] #[{ accessFlags := 2, nameIndex := 5, descriptorIndex := 6, attributes := #[] }, { accessFlags := 10, nameIndex := 24, descriptorIndex := 25, attributes := #[] }, { accessFlags := 9, nameIndex := 29, descriptorIndex := 30, attributes := #[] }] 49 2 #[] #[])
  fields := #[]
  methods := #[k1m0, k1m1, k1m2]
  instanceTypes := #[]
  staticTypes := #[]
  resolved := Array.replicate 33 none
  statics := none }

def pool2 : Array CpInfo := pool [(1, .methodref 2 3), (0, .class_ 4), (0, .nameAndType 5 6), (0, u "java/lang/Object"), (0, u "<init>"), (0, u "()V"), (2, .fieldref 10 11), (0, .class_ 12), (0, .nameAndType 13 14), (0, u "com/example/resemblr/resemblr/SimHash"), (0, u "sums"), (0, u "[J"), (23, u "fingerprint"), (0, u "()J"), (4, .methodref 45 46), (0, .class_ 47), (0, .nameAndType 48 49), (0, u "java/lang/Math"), (0, u "addExact"), (0, u "(JJ)J"), (0, .methodref 45 51), (0, .nameAndType 52 49), (0, u "subtractExact"), (13, u "add"), (0, u "(JJ)V")] 33

def k2c0 : Code := { maxStack := 2, maxLocals := 1, code := prog_23_method_1_code, exceptionTable := #[], attributes := #[] }
def k2m0 : Method := { name := "<init>", desc := "()V", sig := { parameters := [], returnType := none }, accessFlags := 1, code := some k2c0 }
def k2c1 : Code := { maxStack := 6, maxLocals := 6, code := prog_23_method_5_code, exceptionTable := #[], attributes := #[] }
def k2m1 : Method := { name := "add", desc := "(JJ)V", sig := { parameters := [.long, .long], returnType := none }, accessFlags := 1, code := some k2c1 }
def k2c2 : Code := { maxStack := 5, maxLocals := 4, code := prog_23_method_6_code, exceptionTable := #[], attributes := #[] }
def k2m2 : Method := { name := "fingerprint", desc := "()J", sig := { parameters := [], returnType := some .long }, accessFlags := 1, code := some k2c2 }
/-- com/example/resemblr/resemblr/SimHash -/
def k2 : Class := { plain "com/example/resemblr/resemblr/SimHash" (some 0) with
  accessFlags := 33
  interfaces := #[]
  cf := some (fileOf pool2 10 #[] #[{ accessFlags := 1, nameIndex := 5, descriptorIndex := 6, attributes := #[] }, { accessFlags := 1, nameIndex := 66, descriptorIndex := 67, attributes := #[] }, { accessFlags := 1, nameIndex := 38, descriptorIndex := 39, attributes := #[] }] 33 2 #[] #[{ accessFlags := 18, nameIndex := 13, descriptorIndex := 14, attributes := #[] }])
  fields := #[{ name := "sums", type := (.array .long), accessFlags := 18, slot := 0, constantValue := 0 }]
  methods := #[k2m0, k2m1, k2m2]
  instanceTypes := #[(.array .long)]
  staticTypes := #[]
  resolved := Array.replicate 101 none
  statics := none }

def pool3 : Array CpInfo := pool [(1, .class_ 2), (0, u "java/lang/Math"), (1, .class_ 6), (1, u "java/lang/Object"), (0, u "<init>"), (0, u "()V"), (89, .class_ 100), (1, u "java/lang/Math$RandomNumberGeneratorHolder"), (20, u "(JJ)J"), (50, u "negativeZeroFloatBits"), (0, u "J"), (2, u "negativeZeroDoubleBits"), (68, u "$assertionsDisabled"), (0, u "Z"), (91, u "twoToTheDoubleScaleDown"), (0, u "D"), (4, u "twoToTheDoubleScaleUp"), (9, u "E"), (3, u "PI"), (2, u "TAU"), (2, u "DEGREES_TO_RADIANS"), (0, u "RADIANS_TO_DEGREES"), (27, u "addExact"), (0, u "subtractExact")] 65

def k3m0 : Method := { name := "<init>", desc := "()V", sig := { parameters := [], returnType := none }, accessFlags := 2, code := none }
def k3c1 : Code := { maxStack := 6, maxLocals := 6, code := jdk_29_method_25_code, exceptionTable := #[], attributes := #[] }
def k3m1 : Method := { name := "addExact", desc := "(JJ)J", sig := { parameters := [.long, .long], returnType := some .long }, accessFlags := 9, code := some k3c1 }
def k3c2 : Code := { maxStack := 6, maxLocals := 6, code := jdk_29_method_27_code, exceptionTable := #[], attributes := #[] }
def k3m2 : Method := { name := "subtractExact", desc := "(JJ)J", sig := { parameters := [.long, .long], returnType := some .long }, accessFlags := 9, code := some k3c2 }
/-- java/lang/Math -/
def k3 : Class := { plain "java/lang/Math" (some 0) with
  accessFlags := 49
  interfaces := #[]
  cf := some (fileOf pool3 1 #[.nestMembers #[98]] #[{ accessFlags := 2, nameIndex := 7, descriptorIndex := 8, attributes := #[] }, { accessFlags := 9, nameIndex := 393, descriptorIndex := 121, attributes := #[] }, { accessFlags := 9, nameIndex := 394, descriptorIndex := 121, attributes := #[] }] 49 4 #[] #[{ accessFlags := 25, nameIndex := 354, descriptorIndex := 339, attributes := #[] }, { accessFlags := 25, nameIndex := 358, descriptorIndex := 339, attributes := #[] }, { accessFlags := 25, nameIndex := 361, descriptorIndex := 339, attributes := #[] }, { accessFlags := 26, nameIndex := 364, descriptorIndex := 339, attributes := #[] }, { accessFlags := 26, nameIndex := 365, descriptorIndex := 339, attributes := #[] }, { accessFlags := 26, nameIndex := 172, descriptorIndex := 173, attributes := #[] }, { accessFlags := 26, nameIndex := 176, descriptorIndex := 173, attributes := #[] }, { accessFlags := 8, nameIndex := 344, descriptorIndex := 339, attributes := #[] }, { accessFlags := 8, nameIndex := 338, descriptorIndex := 339, attributes := #[] }, { accessFlags := 4120, nameIndex := 245, descriptorIndex := 246, attributes := #[] }])
  fields := #[{ name := "E", type := .double, accessFlags := 25, slot := 0, constantValue := 0 }, { name := "PI", type := .double, accessFlags := 25, slot := 1, constantValue := 0 }, { name := "TAU", type := .double, accessFlags := 25, slot := 2, constantValue := 0 }, { name := "DEGREES_TO_RADIANS", type := .double, accessFlags := 26, slot := 3, constantValue := 0 }, { name := "RADIANS_TO_DEGREES", type := .double, accessFlags := 26, slot := 4, constantValue := 0 }, { name := "negativeZeroFloatBits", type := .long, accessFlags := 26, slot := 5, constantValue := 0 }, { name := "negativeZeroDoubleBits", type := .long, accessFlags := 26, slot := 6, constantValue := 0 }, { name := "twoToTheDoubleScaleUp", type := .double, accessFlags := 8, slot := 7, constantValue := 0 }, { name := "twoToTheDoubleScaleDown", type := .double, accessFlags := 8, slot := 8, constantValue := 0 }, { name := "$assertionsDisabled", type := .boolean, accessFlags := 4120, slot := 9, constantValue := 0 }]
  methods := #[k3m0, k3m1, k3m2]
  instanceTypes := #[]
  staticTypes := #[.double, .double, .double, .double, .double, .long, .long, .double, .double, .boolean]
  resolved := Array.replicate 460 none
  statics := none }

def pool4 : Array CpInfo := pool [(1, u "java/lang/Cloneable"), (0, .class_ 1), (0, u "java/lang/Object"), (0, .class_ 3)] 3

/-- java/lang/Cloneable -/
def k4 : Class := { plain "java/lang/Cloneable" (some 0) with
  accessFlags := 1537
  interfaces := #[]
  cf := some (fileOf pool4 2 #[] #[] 1537 4 #[] #[])
  fields := #[]
  methods := #[]
  instanceTypes := #[]
  staticTypes := #[]
  resolved := Array.replicate 8 none
  statics := none }

def pool5 : Array CpInfo := pool [(1, u "java/io/Serializable"), (0, .class_ 1), (0, u "java/lang/Object"), (0, .class_ 3)] 3

/-- java/io/Serializable -/
def k5 : Class := { plain "java/io/Serializable" (some 0) with
  accessFlags := 1537
  interfaces := #[]
  cf := some (fileOf pool5 2 #[] #[] 1537 4 #[] #[])
  fields := #[]
  methods := #[]
  instanceTypes := #[]
  staticTypes := #[]
  resolved := Array.replicate 8 none
  statics := none }

/-- the primitive byte -/
def k6 : Class := { plain "byte" none with kind := .primitive 'B', accessFlags := 0x411 }
/-- [B -/
def k7 : Class := { plain "[B" (some 0) with kind := .array 6 .byte, interfaces := #[4, 5], accessFlags := 1041 }

/-- the primitive int -/
def k8 : Class := { plain "int" none with kind := .primitive 'I', accessFlags := 0x411 }
/-- [I -/
def k9 : Class := { plain "[I" (some 0) with kind := .array 8 .int, interfaces := #[4, 5], accessFlags := 1041 }

/-- the primitive long -/
def k10 : Class := { plain "long" none with kind := .primitive 'J', accessFlags := 0x411 }
/-- [J -/
def k11 : Class := { plain "[J" (some 0) with kind := .array 10 .long, interfaces := #[4, 5], accessFlags := 1041 }

def heap : Heap := #[]
def classes : Array Class := #[k0, k1, k2, k3, k4, k5, k6, k7, k8, k9, k10, k11]
def interned : List (Array UInt16 × Addr) := []
def slotsUsed : Nat := 0
def theMethod : MethodId := ⟨1, 2⟩
def args0 : Array Value := #[.long 0, .long 1, .long 2, .long 3, .long 4, .long 5]
def aboutOver (below : List Frame) : State where
  vm := { classes := classes, interned := interned.toArray }
  heap := heap
  slotsUsed := slotsUsed
  threads := #[{ frames := .invoking theMethod args0 :: below }]
def below0 : List Frame := [.native { method := ⟨0, 0⟩, args := #[] }]
def about1 : State := aboutOver below0
def p0 : Program := .bare "" "" ""
def e0 : Env := launch0.env 0 0 0
theorem w_frames : about1.frames = Frame.invoking theMethod args0 :: below0 := rfl
set_option maxRecDepth 65536 in
theorem w_args : argsFit about1.vm theMethod args0 = true := by decide +kernel
set_option maxRecDepth 65536 in
theorem w_heap : heapFits about1 = true := by decide +kernel
set_option maxRecDepth 65536 in
theorem w_runnable : about1.curStatus? = some .runnable := by decide +kernel
set_option maxRecDepth 65536 in
theorem w_alone : about1.alone = true := by decide +kernel
set_option maxRecDepth 65536 in
theorem w_named : about1.methodNamed? x = some theMethod := by decide +kernel
set_option maxRecDepth 65536 in
theorem w_hears : about1.hears theMethod below0 = true := by decide +kernel
set_option maxRecDepth 65536 in
theorem w_ripe : about1.ripe theMethod args0 below0 = true := by decide +kernel
theorem w_running : about1.status = .running := rfl
set_option maxRecDepth 65536 in
theorem w_room : about1.hasRoom e0.platform room_1 = true :=
  launch0.hasRoom_least _ room_1 (by decide +kernel) (by decide +kernel) (by decide +kernel) (by decide +kernel) (by decide +kernel) (by decide +kernel)
theorem allAtoms_all (ts : List Jvm.Cond) (a : Array Jvm.Value) (st : Jvm.State) : (allAtoms ts).before a st = ts.all (fun c => c.before a st) := by
  induction ts with
  | nil => rfl
  | cons c t ih =>
    show (Jvm.Cond.and c (allAtoms t)).before a st = _
    rw [Jvm.Cond.before_and, ih, List.all_cons]
def words1 : List Jvm.Cond := Jvm.Cond.code x code maxLocals ret :: tables_1
/-- a 'code' word, met by the world's own term for the bytes: nothing is compared byte by byte -/
theorem code_word {y : MethodName} {bytes : ByteArray} {mx : Nat} {rt : Option FieldType} {a : Array Value} {s : State} {m : MethodId} {meth : Method} {c : Code} (h1 : s.methodNamed? y = some m) (h2 : s.vm.method? m = some meth) (h3 : meth.code = some c) (h4 : c.code = bytes)
    (h5 : (c.maxLocals == mx && c.exceptionTable.isEmpty && decide (c.maxStack ≤ mostOperands) && decide (meth.sig.returnType = rt) && !meth.locks && decide (parseMethodDescriptor y.desc = some meth.sig)) = true) : (Jvm.Cond.code y bytes mx rt).before a s = true := by
  simp only [Bool.and_eq_true, beq_iff_eq, Bool.not_eq_true', decide_eq_true_eq] at h5
  obtain ⟨⟨⟨⟨⟨g1, g2⟩, g3⟩, g4⟩, g5⟩, g6⟩ := h5
  simp [Cond.before, Cond.holds, Cond.value, h1, h2, h3, h4, g1, g2, g3, g4, g5, g6]
def isCode : Jvm.Cond → Bool
  | .code _ _ _ _ => true
  | _ => false
theorem all_split {L : List Jvm.Cond} {P : Jvm.Cond → Bool} (h1 : L.all (fun c => isCode c || P c) = true) (h2 : ∀ c ∈ L.filter isCode, P c = true) : L.all P = true := by
  refine List.all_eq_true.mpr fun c hc => ?_
  have h := List.all_eq_true.mp h1 c hc
  rcases Bool.eq_false_or_eq_true (isCode c) with hi | hi
  · exact h2 c (List.mem_filter.mpr ⟨hc, hi⟩)
  · simpa [hi] using h
set_option maxRecDepth 65536 in
theorem w_c0 : (Jvm.Cond.code x code maxLocals ret).before args0 about1 = true := code_word (m := ⟨1, 2⟩) (meth := k1m2) (c := k1c2) (by decide +kernel) rfl rfl rfl (by decide +kernel)
set_option maxRecDepth 65536 in
theorem w_c1 : (Jvm.Cond.code ({ cls := "com/example/resemblr/resemblr/SimHash", name := "<init>", desc := "()V" } : Jvm.MethodName) prog_23_method_1_code (1 : Nat) (Option.none : Option Jvm.ClassFile.FieldType)).before args0 about1 = true := code_word (m := ⟨2, 0⟩) (meth := k2m0) (c := k2c0) (by decide +kernel) rfl rfl rfl (by decide +kernel)
set_option maxRecDepth 65536 in
theorem w_c2 : (Jvm.Cond.code ({ cls := "java/lang/Object", name := "<init>", desc := "()V" } : Jvm.MethodName) object_method_1_code (1 : Nat) (Option.none : Option Jvm.ClassFile.FieldType)).before args0 about1 = true := code_word (m := ⟨0, 0⟩) (meth := k0m0) (c := k0c0) (by decide +kernel) rfl rfl rfl (by decide +kernel)
set_option maxRecDepth 65536 in
theorem w_c3 : (Jvm.Cond.code ({ cls := "com/example/resemblr/resemblr/SimHash", name := "add", desc := "(JJ)V" } : Jvm.MethodName) prog_23_method_5_code (6 : Nat) (Option.none : Option Jvm.ClassFile.FieldType)).before args0 about1 = true := code_word (m := ⟨2, 1⟩) (meth := k2m1) (c := k2c1) (by decide +kernel) rfl rfl rfl (by decide +kernel)
set_option maxRecDepth 65536 in
theorem w_c4 : (Jvm.Cond.code ({ cls := "java/lang/Math", name := "addExact", desc := "(JJ)J" } : Jvm.MethodName) jdk_29_method_25_code (6 : Nat) (Option.some Jvm.ClassFile.FieldType.long)).before args0 about1 = true := code_word (m := ⟨3, 1⟩) (meth := k3m1) (c := k3c1) (by decide +kernel) rfl rfl rfl (by decide +kernel)
set_option maxRecDepth 65536 in
theorem w_c5 : (Jvm.Cond.code ({ cls := "java/lang/Math", name := "subtractExact", desc := "(JJ)J" } : Jvm.MethodName) jdk_29_method_27_code (6 : Nat) (Option.some Jvm.ClassFile.FieldType.long)).before args0 about1 = true := code_word (m := ⟨3, 2⟩) (meth := k3m2) (c := k3c2) (by decide +kernel) rfl rfl rfl (by decide +kernel)
set_option maxRecDepth 65536 in
theorem w_c6 : (Jvm.Cond.code ({ cls := "com/example/resemblr/resemblr/SimHash", name := "fingerprint", desc := "()J" } : Jvm.MethodName) prog_23_method_6_code (4 : Nat) (Option.some Jvm.ClassFile.FieldType.long)).before args0 about1 = true := code_word (m := ⟨2, 2⟩) (meth := k2m2) (c := k2c2) (by decide +kernel) rfl rfl rfl (by decide +kernel)
set_option maxRecDepth 65536 in
theorem w_c7 : (Jvm.Cond.code ({ cls := "com/example/resemblr/resemblr/SimHashFingerprintPinLaw", name := "keep", desc := "(ZJ)J" } : Jvm.MethodName) method_2_code (3 : Nat) (Option.some Jvm.ClassFile.FieldType.long)).before args0 about1 = true := code_word (m := ⟨1, 1⟩) (meth := k1m1) (c := k1c1) (by decide +kernel) rfl rfl rfl (by decide +kernel)
def codes1 : List Jvm.Cond := [Jvm.Cond.code x code maxLocals ret, Jvm.Cond.code ({ cls := "com/example/resemblr/resemblr/SimHash", name := "<init>", desc := "()V" } : Jvm.MethodName) prog_23_method_1_code (1 : Nat) (Option.none : Option Jvm.ClassFile.FieldType), Jvm.Cond.code ({ cls := "java/lang/Object", name := "<init>", desc := "()V" } : Jvm.MethodName) object_method_1_code (1 : Nat) (Option.none : Option Jvm.ClassFile.FieldType), Jvm.Cond.code ({ cls := "com/example/resemblr/resemblr/SimHash", name := "add", desc := "(JJ)V" } : Jvm.MethodName) prog_23_method_5_code (6 : Nat) (Option.none : Option Jvm.ClassFile.FieldType), Jvm.Cond.code ({ cls := "java/lang/Math", name := "addExact", desc := "(JJ)J" } : Jvm.MethodName) jdk_29_method_25_code (6 : Nat) (Option.some Jvm.ClassFile.FieldType.long), Jvm.Cond.code ({ cls := "java/lang/Math", name := "subtractExact", desc := "(JJ)J" } : Jvm.MethodName) jdk_29_method_27_code (6 : Nat) (Option.some Jvm.ClassFile.FieldType.long), Jvm.Cond.code ({ cls := "com/example/resemblr/resemblr/SimHash", name := "fingerprint", desc := "()J" } : Jvm.MethodName) prog_23_method_6_code (4 : Nat) (Option.some Jvm.ClassFile.FieldType.long), Jvm.Cond.code ({ cls := "com/example/resemblr/resemblr/SimHashFingerprintPinLaw", name := "keep", desc := "(ZJ)J" } : Jvm.MethodName) method_2_code (3 : Nat) (Option.some Jvm.ClassFile.FieldType.long)]
set_option maxRecDepth 65536 in
theorem codes_eq : words1.filter isCode = codes1 := rfl
theorem w_codes : ∀ c ∈ words1.filter isCode, c.before args0 about1 = true := by
  rw [codes_eq]
  intro c hc
  simp only [codes1, List.mem_cons, List.not_mem_nil, or_false] at hc
  rcases hc with rfl | rfl | rfl | rfl | rfl | rfl | rfl | rfl
  · exact w_c0
  · exact w_c1
  · exact w_c2
  · exact w_c3
  · exact w_c4
  · exact w_c5
  · exact w_c6
  · exact w_c7
set_option maxRecDepth 65536 in
theorem w_t1 : (words1.take 24).all (fun c => isCode c || c.before args0 about1) = true := by decide +kernel
set_option maxRecDepth 65536 in
theorem w_t2 : (words1.drop 24).all (fun c => isCode c || c.before args0 about1) = true := by decide +kernel
theorem w_tables : (allAtoms (Jvm.Cond.code x code maxLocals ret :: tables_1)).before args0 about1 = true := by
  rw [allAtoms_all]
  show words1.all (fun c => c.before args0 about1) = true
  refine all_split ?_ w_codes
  rw [← List.take_append_drop 24 words1, List.all_append, w_t1, w_t2]
  rfl
set_option maxRecDepth 65536 in
theorem w_case : (Jvm.Cond.and given_1 narrow_1).before args0 about1 = true := by decide +kernel
theorem w_applies : (headSpec (Jvm.Cond.code x code maxLocals ret :: tables_1) room_1).applies x e0.platform about1 = true :=
  (Spec.applies_iff w_frames).mpr ⟨w_running, w_runnable, w_alone, w_named, w_hears, w_ripe, w_room, w_tables⟩
theorem atStart : AtStart classFile x code maxLocals ret World_1 tables_1 room_1 Calls_1 rest_1 Pre_1 launch0 p0 e0 about1 theMethod args0 below0 :=
  ⟨lists_1, trivial, launch0.admits_env _ _ _, launch0.least_env, fairChoices_fair.cas, fairChoices_fair.clock, w_frames, w_args, w_heap, w_applies, trivial, trivial, w_case⟩
end start1
theorem witness_1 : WitnessClaimed_1 := ⟨start1.p0, start1.e0, start1.about1, start1.theMethod, start1.args0, start1.below0, start1.atStart⟩
end Jvm.Pilot.@@N@@
