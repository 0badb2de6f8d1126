import JvmDerived
import JvmDerived.Pilot.@@N@@Statement
import JvmDerived.Pilot.@@N@@Code
set_option linter.unusedVariables false
set_option linter.unusedSimpArgs false
@@BLOCK:NumsL.lean.txt@@
namespace Jvm.Pilot.@@N@@
open Jvm Jvm.ClassFile Sem Op Lib Jvm.Free Jvm.Stand Jvm.LawKit Jvm.RoadKit Bundle Jvm.Pilot.@@N@@.Jvm.D
/-! own layer: the run from here ends, and Q holds of what it returned, of the heap and of the places written -/
def own_End (p : Program) (e : Env) (below : List Frame) (P : State → Outcome → Prop) (T : State) (f : JFrame) : Prop := ∃ s₂ o, Steps p.tables e below (T.setTop f) s₂ ∧ P s₂ o
def own_P (below : List Frame) (s : State) (Q : Option Value → Heap → List Loc → Prop) (kc ns : Nat) : State → Outcome → Prop := fun s₂ o => s₂.status = .running ∧ Ended s₂ below o ∧ ∃ v L, o = .returned v ∧ Q v s₂.heap L ∧ FrameEnd s o s₂ L kc ns
def own_Met (l : Launch) (Z : State) (y : MethodName) (bytes : ByteArray) (maxL : Nat) (ret : Option FieldType) (ws : List Jvm.Cond) (rm : Room) (as' : Array Value) (h : Heap) (Q : Option Value → Heap → List Loc → Prop) : Prop :=
  MetFree l y (head1 (Jvm.Cond.code y bytes maxL ret :: ws) rm) (fun a U => a = as' ∧ Z.Warmed39 U.vm ∧ U.heap = h) (fun _ _ _ _ _ => True) (fun _ U o U' => ∃ v L, o = .returned v ∧ Q v U'.heap L ∧ FrameEnd U o U' L rm.cells rm.slots)
section OwnSteps
variable {p : Program} {l : Launch} {e : Env} {R : Room} {s : State} {m : MethodId} {args : Array Value} {below : List Frame} {meth : Method} {c : Code} {T : State} {locs : List Loc} {cells slots : Nat} {P : State → Outcome → Prop} {Q : Option Value → Heap → List Loc → Prop} {kc ns : Nat} {Z : State} {a0 : Array Value} {h : Heap} {f : JFrame}
theorem own_go {T' : State} {f' : JFrame} (st : ∀ t, Steps p.tables e below (T'.setTop f') t → Steps p.tables e below (T.setTop f) t) (k : own_End p e below P T' f') : own_End p e below P T f := by
  obtain ⟨s₂, o, h1, h2⟩ := k
  exact ⟨s₂, o, st _ h1, h2⟩
theorem own_via {T' : State} {f' : JFrame} (st : Steps p.tables e below (T.setTop f) (T'.setTop f')) (k : own_End p e below P T' f') : own_End p e below P T f := own_go (fun _ h => st.trans h) k
theorem own_exf (h : False) : own_End p e below P T f := h.elim
theorem own_body {y : MethodName} {bytes : ByteArray} {maxL : Nat} {ret : Option FieldType} {ws : List Jvm.Cond} {rm : Room} {as' : Array Value} (hpl : plainFor y = true)
    (body : ∀ (p : Program) (e : Env) (s : State) (m : MethodId) (below : List Frame) (meth : Method) (c : Code) (s₁ : State), p.tables.exec = Jvm.exec → Z.Warmed39 s.vm → c.code = bytes → c.maxLocals = maxL → s.vm.findClass y.cls = some m.cls → meth.name = y.name → meth.sig.returnType = ret → meth.locks = false →
      Stand p l e rm s m as' below meth c s₁ [] 0 0 → s₁.heap = h → own_End p e below (own_P below s Q rm.cells rm.slots) s₁ (entryFrame m as' maxL)) : own_Met l Z y bytes maxL ret ws rm as' h Q := by
  refine MetFree.of_bodySF hpl hisR ?_
  intro p e s m args below meth c s₁ Bd hml0 hP hK
  obtain ⟨rfl, hZ, hh⟩ := hP
  exact body p e s m below meth c s₁ Bd.exec hZ Bd.bytes hml0 (findClass_of_methodNamed Bd.named) (name_of_methodNamed Bd.named Bd.method).1 Bd.returns Bd.notSynchronized (Stand.of_body Bd) (by rw [← hh, Bd.state]; rfl)
theorem own_cast {g g' : JFrame} (q : g = g') (k : own_End p e below P T g') : own_End p e below P T g := q ▸ k
theorem own_ret (X : Stand p l e R s m args below meth c T locs cells slots) (hP : P = own_P below s Q kc ns) (hlk : meth.locks = false) (eT : T.heap = h) {v : Option Value} (hv : meth.sig.returnType = none → v = none) (hk : cells ≤ kc) (hn : slots ≤ ns) (hQ : Q v h locs)
    (st : ∀ fs, (∀ (f : JFrame) (acts : List Action), f.method = m → f.locked = none → f.entered = [] → (doReturn e (T.setTop f) acts v).1 = T.setFrames fs) → Steps p.tables e below (T.setTop f) (T.setFrames fs)) : own_End p e below P T f := by
  obtain ⟨fs, hr, hrun, hended, hW, hsame⟩ := X.leave hv hlk
  subst hP
  exact ⟨_, _, st fs hr, hrun, hended, _, _, rfl, (eT ▸ hQ : Q v T.heap locs), ⟨_, rfl⟩, hW, hsame.mono hk hn⟩
theorem own_retV (X : Stand p l e R s m args below meth c T locs cells slots) (hP : P = own_P below s Q kc ns) (hx : p.tables.exec = Jvm.exec) (hlk : meth.locks = false) (eT : T.heap = h) {pc : Nat} {Ls : Array Slot} (hret : meth.sig.returnType = none) (hd : decode c.code pc = .ok (.return_, 1)) (hk : cells ≤ kc) (hn : slots ≤ ns) (hQ : Q none h locs) :
    own_End p e below P T (mkF m pc Ls []) := own_ret X hP hlk eT (fun _ => rfl) hk hn hQ fun _ hr => X.returnOut hx hret hd hr
theorem own_retI (X : Stand p l e R s m args below meth c T locs cells slots) (hP : P = own_P below s Q kc ns) (hx : p.tables.exec = Jvm.exec) (hlk : meth.locks = false) (eT : T.heap = h) {pc : Nat} {Ls : Array Slot} {z : Int32} {rest : List Value} (hret : meth.sig.returnType = some .int) (hd : decode c.code pc = .ok (.ireturn, 1)) (hk : cells ≤ kc) (hn : slots ≤ ns) (hQ : Q (some (.int z)) h locs) :
    own_End p e below P T (mkF m pc Ls (.int z :: rest)) := own_ret X hP hlk eT (fun h => by rw [hret] at h; cases h) hk hn hQ fun fs hr => retOut X hx hret rfl (Or.inl ⟨rfl, Or.inl rfl, z, rfl⟩) hd hr
theorem own_retN (X : Stand p l e R s m args below meth c T locs cells slots) (hP : P = own_P below s Q kc ns) (hx : p.tables.exec = Jvm.exec) (hlk : meth.locks = false) (eT : T.heap = h) {pc : Nat} {Ls : Array Slot} {z : Int32} {rest : List Value} {t : FieldType} (hret : meth.sig.returnType = some t) (ht : t = .boolean ∨ t = .byte ∨ t = .char ∨ t = .short) (hd : decode c.code pc = .ok (.ireturn, 1)) (hk : cells ≤ kc) (hn : slots ≤ ns) {z' : Int32} (hz : nar t z = z') (hQ : Q (some (.int z')) h locs) :
    own_End p e below P T (mkF m pc Ls (.int z :: rest)) := by
  subst hz
  exact own_ret X hP hlk eT (fun h => by rw [hret] at h; cases h) hk hn hQ fun fs hr => retN X hx hret ht hd hr
theorem own_retJ (X : Stand p l e R s m args below meth c T locs cells slots) (hP : P = own_P below s Q kc ns) (hx : p.tables.exec = Jvm.exec) (hlk : meth.locks = false) (eT : T.heap = h) {pc : Nat} {Ls : Array Slot} {z : Int64} {rest : List Value} (hret : meth.sig.returnType = some .long) (hd : decode c.code pc = .ok (.lreturn, 1)) (hk : cells ≤ kc) (hn : slots ≤ ns) (hQ : Q (some (.long z)) h locs) :
    own_End p e below P T (mkF m pc Ls (.long z :: rest)) := own_ret X hP hlk eT (fun h => by rw [hret] at h; cases h) hk hn hQ fun fs hr => retOut X hx hret rfl (Or.inr (Or.inl ⟨rfl, rfl, z, rfl⟩)) hd hr
theorem own_retA (X : Stand p l e R s m args below meth c T locs cells slots) (hP : P = own_P below s Q kc ns) (hx : p.tables.exec = Jvm.exec) (hlk : meth.locks = false) (eT : T.heap = h) {pc : Nat} {Ls : Array Slot} {w : Value} {rest : List Value} {t : FieldType} (hret : meth.sig.returnType = some t) (ht : t.isReference = true) (hw : w.isRef = true) (hnr : narrow t w = w) (hd : decode c.code pc = .ok (.areturn, 1)) (hk : cells ≤ kc) (hn : slots ≤ ns) (hQ : Q (some w) h locs) :
    own_End p e below P T (mkF m pc Ls (w :: rest)) := own_ret X hP hlk eT (fun h => by rw [hret] at h; cases h) hk hn hQ fun fs hr => retOut X hx hret hnr (Or.inr (Or.inr (Or.inr (Or.inr ⟨rfl, ht, hw⟩)))) hd hr
theorem own_callS (X : Stand p l e R s m args below meth c T locs cells slots) (hx : p.tables.exec = Jvm.exec) (hZ : Z.Warmed39 s.vm) {own : String} (hown : s.vm.findClass own = some m.cls) (eT : T.heap = h) {index : Nat} {y : MethodName} {bytes : ByteArray} {maxL : Nat} {ret : Option FieldType} {rm : Room} {as' : Array Value} {Q' : Option Value → Heap → List Loc → Prop}
    (w1 : (Cond.methodLink own index y).before a0 Z = true) (w2 : (Cond.static y).before a0 Z = true) (w3 : (Cond.initialized y.cls).before a0 Z = true) (w4 : (Cond.code y bytes maxL ret).before a0 Z = true) (hy : y.cls ≠ "java/lang/invoke/MethodHandle" ∧ y.cls ≠ "java/lang/invoke/VarHandle")
    (hM : own_Met l Z y bytes maxL ret [] rm as' h Q') {g : JFrame} (hg : g.method = m) (hsize : g.locals.size = c.maxLocals) {argsL rest : List Value} (hlen : ∀ sig, parseMethodDescriptor y.desc = some sig → argsL.length = sig.parameters.length) (hstack : g.stack = argsL.reverse ++ rest) (has : argsL.toArray = as') {W : Nat} (hW : 2 * g.monitorRoom + (rest.map fun v => v.category).sum ≤ W) (hdg : decode c.code g.pc = .ok (.invokestatic index, 3))
    (hf : rm.frames + 1 ≤ R.frames) (hl : W + (maxL + 11) + rm.locals ≤ R.locals) (hc : cells + rm.cells ≤ R.cells) (hs : slots + rm.slots ≤ R.slots)
    (k : ∀ v T' L, Stand p l e R s m args below meth c T' (locs ++ L) (cells + rm.cells) (slots + rm.slots) → Q' v T'.heap L → own_End p e below P T' { g with pc := g.pc + 3, stack := v.toList ++ rest }) : own_End p e below P T g := by
  obtain ⟨v, vm1, ⟨T', L1, k1, n1⟩, -, X', ⟨L, hQ, l1, y1, z1⟩, st⟩ := Jvm.LawKit.callS X hx (y := y) hown (mvT hZ w1) (mvT hZ w2) (mvT hZ w3) (mvT hZ w4) hy (backOf (W := W) hM hZ w4 w3 hf hl) hg hsize hlen hstack hW hdg (fun _ _ => ⟨has, eT, hc, hs⟩)
  dsimp only [Pt.U, Pt.locs, Pt.cells, Pt.slots] at X' l1 y1 z1 st hQ
  subst l1 y1 z1
  exact own_go st (k v T' L X' hQ)
theorem own_callC (X : Stand p l e R s m args below meth c T locs cells slots) (hx : p.tables.exec = Jvm.exec) (hZ : Z.Warmed39 s.vm) {own : String} (hown : s.vm.findClass own = some m.cls) (eT : T.heap = h) {index : Nat} {y : MethodName} {bytes : ByteArray} {maxL : Nat} {rm : Room} {as' : Array Value} {Q' : Option Value → Heap → List Loc → Prop}
    (hyi : y.name = "<init>") (w1 : (Cond.methodLink own index y).before a0 Z = true) (w2 : (Cond.instanceMethod y).before a0 Z = true) (w3 : (Cond.initialized y.cls).before a0 Z = true) (w4 : (Cond.code y bytes maxL none).before a0 Z = true) (hy : y.cls ≠ "java/lang/invoke/MethodHandle" ∧ y.cls ≠ "java/lang/invoke/VarHandle")
    (hM : own_Met l Z y bytes maxL none [] rm as' h Q') {g : JFrame} (hg : g.method = m) (hsize : g.locals.size = c.maxLocals) {a : Addr} {argsL rest : List Value} (hlen : ∀ sig, parseMethodDescriptor y.desc = some sig → argsL.length = sig.parameters.length) (hstack : g.stack = argsL.reverse ++ .ref a :: rest) (has : (.ref a :: argsL).toArray = as') {W : Nat} (hW : 2 * g.monitorRoom + (rest.map fun v => v.category).sum ≤ W) (hdg : decode c.code g.pc = .ok (.invokespecial index, 3))
    (hf : rm.frames + 1 ≤ R.frames) (hl : W + (maxL + 11) + rm.locals ≤ R.locals) (hc : cells + rm.cells ≤ R.cells) (hs : slots + rm.slots ≤ R.slots)
    (k : ∀ v T' L, Stand p l e R s m args below meth c T' (locs ++ L) (cells + rm.cells) (slots + rm.slots) → Q' v T'.heap L → own_End p e below P T' { g with pc := g.pc + 3, stack := v.toList ++ rest }) : own_End p e below P T g := by
  obtain ⟨v, vm1, ⟨T', L1, k1, n1⟩, -, X', ⟨L, hQ, l1, y1, z1⟩, st⟩ := X.specialBack hx (y := y) hyi hown (mvT hZ w1) (mvT hZ w2) (mvT hZ w4) hy (backOf (W := W) hM hZ w4 w3 hf hl) hg hsize (Steps.refl _) (a := a) hlen hstack hW hdg (fun _ _ => ⟨has, eT, hc, hs⟩)
  dsimp only [Pt.U, Pt.locs, Pt.cells, Pt.slots] at X' l1 y1 z1 st hQ
  subst l1 y1 z1
  exact own_via st (k v T' L X' hQ)
theorem own_callV (X : Stand p l e R s m args below meth c T locs cells slots) (hx : p.tables.exec = Jvm.exec) (hZ : Z.Warmed39 s.vm) {own : String} (hown : s.vm.findClass own = some m.cls) (eT : T.heap = h) {index : Nat} {C : String} {y z : MethodName} {bytes : ByteArray} {maxL : Nat} {ret : Option FieldType} {rm : Room} {as' : Array Value} {Q' : Option Value → Heap → List Loc → Prop}
    (w1 : (Cond.methodLink own index y).before a0 Z = true) (wd : (Cond.declares y).before a0 Z = true) (hnf : NotFace s y) (wsel : (Cond.selects C y z).before a0 Z = true) (w2 : (Cond.instanceMethod z).before a0 Z = true) (w3 : (Cond.initialized z.cls).before a0 Z = true) (w4 : (Cond.code z bytes maxL ret).before a0 Z = true) (hy : y.cls ≠ "java/lang/invoke/MethodHandle" ∧ y.cls ≠ "java/lang/invoke/VarHandle")
    (hM : own_Met l Z z bytes maxL ret [] rm as' h Q') {a : Addr} (E : Exa Z h a C) {g : JFrame} (hg : g.method = m) (hsize : g.locals.size = c.maxLocals) {argsL rest : List Value} (hlen : ∀ sig, parseMethodDescriptor y.desc = some sig → argsL.length = sig.parameters.length) (hstack : g.stack = argsL.reverse ++ .ref a :: rest) (has : (.ref a :: argsL).toArray = as') {W : Nat} (hW : 2 * g.monitorRoom + (rest.map fun v => v.category).sum ≤ W) (hdg : decode c.code g.pc = .ok (.invokevirtual index, 3))
    (hf : rm.frames + 1 ≤ R.frames) (hl : W + (maxL + 11) + rm.locals ≤ R.locals) (hc : cells + rm.cells ≤ R.cells) (hs : slots + rm.slots ≤ R.slots)
    (k : ∀ v T' L, Stand p l e R s m args below meth c T' (locs ++ L) (cells + rm.cells) (slots + rm.slots) → Q' v T'.heap L → own_End p e below P T' { g with pc := g.pc + 3, stack := v.toList ++ rest }) : own_End p e below P T g := by
  obtain ⟨cB, kB, q1, q2, q3⟩ := isOf (T := T) hZ eT E
  obtain ⟨v, vm1, ⟨T', L1, k1, n1⟩, -, X', ⟨L, hQ, l1, y1, z1⟩, st⟩ := X.virtualBack hx (y := y) (z := z) hown (mvT hZ w1) (mvT hZ wd) hnf (mvT hZ wsel) (mvT hZ w2) hy (backOf (W := W) hM hZ w4 w3 hf hl) q1 q3 hg hsize (Steps.refl _) hlen hstack hW hdg (fun _ _ => ⟨has, eT, hc, hs⟩)
  dsimp only [Pt.U, Pt.locs, Pt.cells, Pt.slots] at X' l1 y1 z1 st hQ
  subst l1 y1 z1
  exact own_via st (k v T' L X' hQ)
theorem own_selP {C : String} {x' y y' : MethodName} (wz : (Cond.selects C x' y').before args s = true) (hc : y'.cls = y.cls) (hpriv : s.PrivateAt y) (hinst : (Cond.instanceMethod y).before args s = true) (hy : y.cls ≠ "java/lang/invoke/MethodHandle" ∧ y.cls ≠ "java/lang/invoke/VarHandle") : (Cond.selects y.cls y y).before args s = true := by
  obtain ⟨_, _, m2, -, -, q3, -, kP, hkP, hkPi⟩ := Cond.selects_spec wz
  exact selects_self_of_private (by rw [← hc]; exact findClass_of_methodNamed q3) hkP hkPi hpriv hinst hy
theorem own_callP (X : Stand p l e R s m args below meth c T locs cells slots) (hx : p.tables.exec = Jvm.exec) (hZ : Z.Warmed39 s.vm) {own : String} (hown : s.vm.findClass own = some m.cls) (eT : T.heap = h) {index : Nat} {y : MethodName} {bytes : ByteArray} {maxL : Nat} {ret : Option FieldType} {rm : Room} {as' : Array Value} {Q' : Option Value → Heap → List Loc → Prop}
    (w1 : (Cond.methodLink own index y).before a0 Z = true) (w2 : (Cond.instanceMethod y).before a0 Z = true) (wsel : (Cond.selects y.cls y y).before args s = true) (wp : (Cond.privateMethod y).before a0 Z = true) (w3 : (Cond.initialized y.cls).before a0 Z = true) (w4 : (Cond.code y bytes maxL ret).before a0 Z = true) (hy : y.cls ≠ "java/lang/invoke/MethodHandle" ∧ y.cls ≠ "java/lang/invoke/VarHandle")
    (hM : own_Met l Z y bytes maxL ret [] rm as' h Q') {C : String} {a : Addr} (E : Exa Z h a C) {g : JFrame} (hg : g.method = m) (hsize : g.locals.size = c.maxLocals) {argsL rest : List Value} (hlen : ∀ sig, parseMethodDescriptor y.desc = some sig → argsL.length = sig.parameters.length) (hstack : g.stack = argsL.reverse ++ .ref a :: rest) (has : (.ref a :: argsL).toArray = as') {W : Nat} (hW : 2 * g.monitorRoom + (rest.map fun v => v.category).sum ≤ W) (hdg : decode c.code g.pc = .ok (.invokevirtual index, 3))
    (hf : rm.frames + 1 ≤ R.frames) (hl : W + (maxL + 11) + rm.locals ≤ R.locals) (hc : cells + rm.cells ≤ R.cells) (hs : slots + rm.slots ≤ R.slots)
    (k : ∀ v T' L, Stand p l e R s m args below meth c T' (locs ++ L) (cells + rm.cells) (slots + rm.slots) → Q' v T'.heap L → own_End p e below P T' { g with pc := g.pc + 3, stack := v.toList ++ rest }) : own_End p e below P T g := by
  obtain ⟨cq, q1, q2⟩ := E.cell
  obtain ⟨v, vm1, ⟨T', L1, k1, n1⟩, -, X', ⟨L, hQ, l1, y1, z1⟩, st⟩ := X.privateBack hx (y := y) hown (mvT hZ w1) (mvT hZ w2) wsel (Cond.privateMethod_at (mvP hZ wp (args := #[]))) (mvT hZ w4) hy (backOf (W := W) hM hZ w4 w3 hf hl) hg hsize (Steps.refl _) (a := a) (by rw [eT]; exact q1) q2 hlen hstack hW hdg (fun _ _ => ⟨has, eT, hc, hs⟩)
  dsimp only [Pt.U, Pt.locs, Pt.cells, Pt.slots] at X' l1 y1 z1 st hQ
  subst l1 y1 z1
  exact own_via st (k v T' L X' hQ)
end OwnSteps
/-! own: a truth as an int; comparisons of longs -/
def own_z (P : Prop) [Decidable P] : Int32 := if P then 1 else 0
section OwnTruth
variable {P : Prop} [Decidable P] {x y : Int64}
theorem own_z_t (h : P) : own_z P = 1 := if_pos h
theorem own_z_f (h : ¬ P) : own_z P = 0 := if_neg h
theorem own_z_nar : nar .boolean (own_z P) = own_z P := by unfold own_z; split <;> decide
theorem own_z_congr {P' : Prop} [Decidable P'] (h : P ↔ P') : own_z P = own_z P' := by unfold own_z; by_cases q : P <;> simp [q, h.symm, h.mp] <;> simp_all
theorem own_z_inj {P' : Prop} [Decidable P'] (h : own_z P = own_z P') : P ↔ P' := by
  unfold own_z at h; by_cases q : P <;> by_cases q' : P' <;> simp_all
theorem own_zY_eq (h : ¬ P) : ifCond.holds .eq (own_z P) = true := by rw [own_z_f h]; rfl
theorem own_zN_eq (h : P) : ifCond.holds .eq (own_z P) = false := by rw [own_z_t h]; rfl
theorem own_zY_ne (h : P) : ifCond.holds .ne (own_z P) = true := by rw [own_z_t h]; rfl
theorem own_zN_ne (h : ¬ P) : ifCond.holds .ne (own_z P) = false := by rw [own_z_f h]; rfl
theorem own_lY_lt (h : x < y) : ifCond.holds .lt (lcmpW x y) = true := (if0 _ _).trans (tlt ((lw_lt x y).mpr h)).1
theorem own_lN_lt (h : ¬ x < y) : ifCond.holds .lt (lcmpW x y) = false := (if0 _ _).trans (flt (mt (lw_lt x y).mp h)).1
theorem own_lY_ge (h : ¬ x < y) : ifCond.holds .ge (lcmpW x y) = true := (if0 _ _).trans (flt (mt (lw_lt x y).mp h)).2.1
theorem own_lN_ge (h : x < y) : ifCond.holds .ge (lcmpW x y) = false := (if0 _ _).trans (tlt ((lw_lt x y).mpr h)).2.1
theorem own_lY_gt (h : y < x) : ifCond.holds .gt (lcmpW x y) = true := (if0 _ _).trans (tlt ((lw_gt x y).mpr h)).2.2.1
theorem own_lN_gt (h : ¬ y < x) : ifCond.holds .gt (lcmpW x y) = false := (if0 _ _).trans (flt (mt (lw_gt x y).mp h)).2.2.1
theorem own_lY_le (h : ¬ y < x) : ifCond.holds .le (lcmpW x y) = true := (if0 _ _).trans (flt (mt (lw_gt x y).mp h)).2.2.2
theorem own_lN_le (h : y < x) : ifCond.holds .le (lcmpW x y) = false := (if0 _ _).trans (tlt ((lw_gt x y).mpr h)).2.2.2
theorem own_lY_eq (h : x = y) : ifCond.holds .eq (lcmpW x y) = true := (if0 _ _).trans (teq ((lw_eq x y).mpr h)).1
theorem own_lN_eq (h : ¬ x = y) : ifCond.holds .eq (lcmpW x y) = false := (if0 _ _).trans (feq (mt (lw_eq x y).mp h)).1
theorem own_lY_ne (h : ¬ x = y) : ifCond.holds .ne (lcmpW x y) = true := (if0 _ _).trans (feq (mt (lw_eq x y).mp h)).2
theorem own_lN_ne (h : x = y) : ifCond.holds .ne (lcmpW x y) = false := (if0 _ _).trans (teq ((lw_eq x y).mpr h)).2
end OwnTruth
/-! own: a callee that writes nothing -/
def own_Pq (val : Option Value) (h : Heap) : Option Value → Heap → List Loc → Prop := fun v h' L => v = val ∧ L = [] ∧ h' = h
section OwnPure
variable {p : Program} {l : Launch} {e : Env} {R : Room} {s : State} {m : MethodId} {args : Array Value} {below : List Frame} {meth : Method} {c : Code} {T : State} {locs : List Loc} {cells slots : Nat} {P : State → Outcome → Prop} {Q : Option Value → Heap → List Loc → Prop} {kc ns : Nat} {Z : State} {a0 : Array Value} {h : Heap} {f : JFrame}
theorem own_callSp (X : Stand p l e R s m args below meth c T locs cells slots) (hx : p.tables.exec = Jvm.exec) (hZ : Z.Warmed39 s.vm) {own : String} (hown : s.vm.findClass own = some m.cls) (eT : T.heap = h) {index : Nat} {y : MethodName} {bytes : ByteArray} {maxL : Nat} {ret : Option FieldType} {fr lo : Nat} {as' : Array Value} {val : Option Value}
    (w1 : (Cond.methodLink own index y).before a0 Z = true) (w2 : (Cond.static y).before a0 Z = true) (w3 : (Cond.initialized y.cls).before a0 Z = true) (w4 : (Cond.code y bytes maxL ret).before a0 Z = true) (hy : y.cls ≠ "java/lang/invoke/MethodHandle" ∧ y.cls ≠ "java/lang/invoke/VarHandle")
    (hM : own_Met l Z y bytes maxL ret [] { frames := fr, cells := 0, slots := 0, locals := lo } as' h (own_Pq val h)) {g : JFrame} (hg : g.method = m) (hsize : g.locals.size = c.maxLocals) {argsL rest : List Value} (hlen : ∀ sig, parseMethodDescriptor y.desc = some sig → argsL.length = sig.parameters.length) (hstack : g.stack = argsL.reverse ++ rest) (has : argsL.toArray = as') {W : Nat} (hW : 2 * g.monitorRoom + (rest.map fun v => v.category).sum ≤ W) (hdg : decode c.code g.pc = .ok (.invokestatic index, 3))
    (hf : fr + 1 ≤ R.frames) (hl : W + (maxL + 11) + lo ≤ R.locals) (hc : cells ≤ R.cells) (hs : slots ≤ R.slots)
    (k : ∀ T', Stand p l e R s m args below meth c T' locs cells slots → T'.heap = h → own_End p e below P T' { g with pc := g.pc + 3, stack := val.toList ++ rest }) : own_End p e below P T g :=
  own_callS X hx hZ hown eT w1 w2 w3 w4 hy hM hg hsize hlen hstack has hW hdg hf hl hc hs fun v T' L X' ⟨q1, q2, q3⟩ => by
    subst q1 q2
    rw [List.append_nil] at X'
    exact k T' X' q3
theorem own_callCp (X : Stand p l e R s m args below meth c T locs cells slots) (hx : p.tables.exec = Jvm.exec) (hZ : Z.Warmed39 s.vm) {own : String} (hown : s.vm.findClass own = some m.cls) (eT : T.heap = h) {index : Nat} {y : MethodName} {bytes : ByteArray} {maxL : Nat} {fr lo : Nat} {as' : Array Value} {val : Option Value}
    (hyi : y.name = "<init>") (w1 : (Cond.methodLink own index y).before a0 Z = true) (w2 : (Cond.instanceMethod y).before a0 Z = true) (w3 : (Cond.initialized y.cls).before a0 Z = true) (w4 : (Cond.code y bytes maxL none).before a0 Z = true) (hy : y.cls ≠ "java/lang/invoke/MethodHandle" ∧ y.cls ≠ "java/lang/invoke/VarHandle")
    (hM : own_Met l Z y bytes maxL none [] { frames := fr, cells := 0, slots := 0, locals := lo } as' h (own_Pq val h)) {g : JFrame} (hg : g.method = m) (hsize : g.locals.size = c.maxLocals) {a : Addr} {argsL rest : List Value} (hlen : ∀ sig, parseMethodDescriptor y.desc = some sig → argsL.length = sig.parameters.length) (hstack : g.stack = argsL.reverse ++ .ref a :: rest) (has : (.ref a :: argsL).toArray = as') {W : Nat} (hW : 2 * g.monitorRoom + (rest.map fun v => v.category).sum ≤ W) (hdg : decode c.code g.pc = .ok (.invokespecial index, 3))
    (hf : fr + 1 ≤ R.frames) (hl : W + (maxL + 11) + lo ≤ R.locals) (hc : cells ≤ R.cells) (hs : slots ≤ R.slots)
    (k : ∀ T', Stand p l e R s m args below meth c T' locs cells slots → T'.heap = h → own_End p e below P T' { g with pc := g.pc + 3, stack := val.toList ++ rest }) : own_End p e below P T g :=
  own_callC X hx hZ hown eT hyi w1 w2 w3 w4 hy hM hg hsize hlen hstack has hW hdg hf hl hc hs fun v T' L X' ⟨q1, q2, q3⟩ => by
    subst q1 q2
    rw [List.append_nil] at X'
    exact k T' X' q3
theorem own_callVp (X : Stand p l e R s m args below meth c T locs cells slots) (hx : p.tables.exec = Jvm.exec) (hZ : Z.Warmed39 s.vm) {own : String} (hown : s.vm.findClass own = some m.cls) (eT : T.heap = h) {index : Nat} {C : String} {y z : MethodName} {bytes : ByteArray} {maxL : Nat} {ret : Option FieldType} {fr lo : Nat} {as' : Array Value} {val : Option Value}
    (w1 : (Cond.methodLink own index y).before a0 Z = true) (wd : (Cond.declares y).before a0 Z = true) (hnf : NotFace s y) (wsel : (Cond.selects C y z).before a0 Z = true) (w2 : (Cond.instanceMethod z).before a0 Z = true) (w3 : (Cond.initialized z.cls).before a0 Z = true) (w4 : (Cond.code z bytes maxL ret).before a0 Z = true) (hy : y.cls ≠ "java/lang/invoke/MethodHandle" ∧ y.cls ≠ "java/lang/invoke/VarHandle")
    (hM : own_Met l Z z bytes maxL ret [] { frames := fr, cells := 0, slots := 0, locals := lo } as' h (own_Pq val h)) {a : Addr} (E : Exa Z h a C) {g : JFrame} (hg : g.method = m) (hsize : g.locals.size = c.maxLocals) {argsL rest : List Value} (hlen : ∀ sig, parseMethodDescriptor y.desc = some sig → argsL.length = sig.parameters.length) (hstack : g.stack = argsL.reverse ++ .ref a :: rest) (has : (.ref a :: argsL).toArray = as') {W : Nat} (hW : 2 * g.monitorRoom + (rest.map fun v => v.category).sum ≤ W) (hdg : decode c.code g.pc = .ok (.invokevirtual index, 3))
    (hf : fr + 1 ≤ R.frames) (hl : W + (maxL + 11) + lo ≤ R.locals) (hc : cells ≤ R.cells) (hs : slots ≤ R.slots)
    (k : ∀ T', Stand p l e R s m args below meth c T' locs cells slots → T'.heap = h → own_End p e below P T' { g with pc := g.pc + 3, stack := val.toList ++ rest }) : own_End p e below P T g :=
  own_callV X hx hZ hown eT w1 wd hnf wsel w2 w3 w4 hy hM E hg hsize hlen hstack has hW hdg hf hl hc hs fun v T' L X' ⟨q1, q2, q3⟩ => by
    subst q1 q2
    rw [List.append_nil] at X'
    exact k T' X' q3
theorem own_callPp (X : Stand p l e R s m args below meth c T locs cells slots) (hx : p.tables.exec = Jvm.exec) (hZ : Z.Warmed39 s.vm) {own : String} (hown : s.vm.findClass own = some m.cls) (eT : T.heap = h) {index : Nat} {y : MethodName} {bytes : ByteArray} {maxL : Nat} {ret : Option FieldType} {fr lo : Nat} {as' : Array Value} {val : Option Value}
    (w1 : (Cond.methodLink own index y).before a0 Z = true) (w2 : (Cond.instanceMethod y).before a0 Z = true) (wsel : (Cond.selects y.cls y y).before args s = true) (wp : (Cond.privateMethod y).before a0 Z = true) (w3 : (Cond.initialized y.cls).before a0 Z = true) (w4 : (Cond.code y bytes maxL ret).before a0 Z = true) (hy : y.cls ≠ "java/lang/invoke/MethodHandle" ∧ y.cls ≠ "java/lang/invoke/VarHandle")
    (hM : own_Met l Z y bytes maxL ret [] { frames := fr, cells := 0, slots := 0, locals := lo } as' h (own_Pq val h)) {C : String} {a : Addr} (E : Exa Z h a C) {g : JFrame} (hg : g.method = m) (hsize : g.locals.size = c.maxLocals) {argsL rest : List Value} (hlen : ∀ sig, parseMethodDescriptor y.desc = some sig → argsL.length = sig.parameters.length) (hstack : g.stack = argsL.reverse ++ .ref a :: rest) (has : (.ref a :: argsL).toArray = as') {W : Nat} (hW : 2 * g.monitorRoom + (rest.map fun v => v.category).sum ≤ W) (hdg : decode c.code g.pc = .ok (.invokevirtual index, 3))
    (hf : fr + 1 ≤ R.frames) (hl : W + (maxL + 11) + lo ≤ R.locals) (hc : cells ≤ R.cells) (hs : slots ≤ R.slots)
    (k : ∀ T', Stand p l e R s m args below meth c T' locs cells slots → T'.heap = h → own_End p e below P T' { g with pc := g.pc + 3, stack := val.toList ++ rest }) : own_End p e below P T g :=
  own_callP X hx hZ hown eT w1 w2 wsel wp w3 w4 hy hM E hg hsize hlen hstack has hW hdg hf hl hc hs fun v T' L X' ⟨q1, q2, q3⟩ => by
    subst q1 q2
    rw [List.append_nil] at X'
    exact k T' X' q3
end OwnPure
/-! own: a cell that is known -/
def own_K (h : Heap) (a : Addr) : Prop := ∃ cell : Cell, h[a]? = some cell ∧ cell.vm ≠ .unknown
theorem own_K_ext {h h' : Heap} {a : Addr} (K : own_K h a) (E : Ext h h') : own_K h' a := by obtain ⟨c, h1, h2⟩ := K; exact ⟨c, E.2 _ _ h1, h2⟩
theorem own_K_wr {h h' : Heap} {a b : Addr} {sl : Nat} {v : Value} (K : own_K h b) (W : Wr h h' a sl v) : own_K h' b := by
  obtain ⟨c, h1, h2⟩ := K
  obtain ⟨c', e1, -, e3, -⟩ := wr_at W h1
  exact ⟨c', e1, by rw [e3]; exact h2⟩
theorem own_K_keep {h h' : Heap} {a : Addr} {ws : List Addr} (K : own_K h a) (E : Keep h h' ws) : own_K h' a := by
  obtain ⟨c, h1, h2⟩ := K
  obtain ⟨c', e1, -, e3, -⟩ := E.2.2 _ _ h1
  exact ⟨c', e1, by rw [e3]; exact h2⟩
theorem own_K_new {h : Heap} {a : Addr} (U : ∃ cell : Cell, h[a]? = some cell ∧ cell.vm = .none ∧ cell.monitor = {}) : own_K h a := by
  obtain ⟨c, h1, h2, -⟩ := U
  exact ⟨c, h1, by rw [h2]; simp⟩

def own_min (x y : Int32) : Int32 := if y < x then y else x
def own_max (x y : Int32) : Int32 := if x < y then y else x
theorem own_bm (x : Int) : (x.bmod (2 ^ 32) - x) % 4294967296 = 0 := by have := Int.bmod_emod (x := x) (m := 2 ^ 32); omega
theorem own_ca (x y : Int32) : ((x + y).toInt - (x.toInt + y.toInt)) % 4294967296 = 0 := by rw [Int32.toInt_add]; exact own_bm _
theorem own_cs (x y : Int32) : ((x - y).toInt - (x.toInt - y.toInt)) % 4294967296 = 0 := by rw [Int32.toInt_sub]; exact own_bm _
theorem own_min_i (x y : Int32) : (own_min x y).toInt = min x.toInt y.toInt := by
  unfold own_min; split <;> rename_i h <;> rw [Int32.lt_iff_toInt_lt] at h <;> omega
theorem own_max_i (x y : Int32) : (own_max x y).toInt = max x.toInt y.toInt := by
  unfold own_max; split <;> rename_i h <;> rw [Int32.lt_iff_toInt_lt] at h <;> omega
abbrev own_Pm (n : Int32) : Prop := ¬ n < (1 : Int32) ∧ ¬ (65536 : Int32) < n
theorem own_Pm_i (n : Int32) : own_Pm n ↔ 1 ≤ n.toInt ∧ n.toInt ≤ 65536 := by
  unfold own_Pm; rw [Int32.lt_iff_toInt_lt, Int32.lt_iff_toInt_lt, show (1 : Int32).toInt = 1 from rfl, show (65536 : Int32).toInt = 65536 from rfl]; omega
theorem own_conv {p q r lo hi mid : Int32} (hlo : lo = own_min p (own_min q r)) (hhi : hi = own_max p (own_max q r)) (hmid : mid = p + q + r - lo - hi) (ha : own_Pm lo) (hc : own_Pm hi) : own_Pm mid := by
  rw [own_Pm_i] at *
  have e1 := own_min_i p (own_min q r)
  have e2 := own_min_i q r
  have e3 := own_max_i p (own_max q r)
  have e4 := own_max_i q r
  rw [← hlo] at e1
  rw [← hhi] at e3
  have c1 := own_ca p q
  have c2 := own_ca (p + q) r
  have c3 := own_cs (p + q + r) lo
  have c4 := own_cs (p + q + r - lo) hi
  rw [← hmid] at c4
  have b1 := mid.le_toInt
  have b2 := mid.toInt_lt
  have p1 := p.le_toInt
  have p2 := p.toInt_lt
  have q1 := q.le_toInt
  have q2 := q.toInt_lt
  have r1 := r.le_toInt
  have r2 := r.toInt_lt
  omega

theorem d1_0 : decode jdk_29_method_69_code 0 = .ok (.iload_n 0, 1) := by decide +kernel
theorem d1_1 : decode jdk_29_method_69_code 1 = .ok (.iload_n 1, 1) := by decide +kernel
theorem d1_2 : decode jdk_29_method_69_code 2 = .ok (.if_icmp .gt 7, 3) := by decide +kernel
theorem d1_5 : decode jdk_29_method_69_code 5 = .ok (.iload_n 0, 1) := by decide +kernel
theorem d1_6 : decode jdk_29_method_69_code 6 = .ok (.goto 4, 3) := by decide +kernel
theorem d1_9 : decode jdk_29_method_69_code 9 = .ok (.iload_n 1, 1) := by decide +kernel
theorem d1_10 : decode jdk_29_method_69_code 10 = .ok (.ireturn, 1) := by decide +kernel
set_option maxRecDepth 65536 in
set_option maxHeartbeats 4000000 in
theorem ef_1 (m : MethodId) (p0 : Int32) (p1 : Int32) : entryFrame m #[(.int p0), (.int p1)] 2 = mkF m 0 #[.val (.int p0), .val (.int p1)] [] := by first | (simp [entryFrame, mkF, argsToLocals, Value.category]; done) | rfl
set_option maxRecDepth 65536 in
set_option maxHeartbeats 40000000 in
theorem rm1 (l : Launch) (Z : State) (aw : Array Value) (hw : ∀ d ∈ tables_1, d.before aw Z = true) {ws : List Jvm.Cond} (p0 : Int32) (p1 : Int32)  (h0 : Heap) (n0 : Nat) (Z0 : n0 ≤ h0.size)  :
    own_Met l Z (⟨"java/lang/Math", "min", "(II)I"⟩ : MethodName) jdk_29_method_69_code 2 (some .int) ws ({ frames := 0, cells := 0, slots := 0, locals := 0 } : Room) #[(.int p0), (.int p1)] h0 (own_Pq (some (.int (own_min p0 p1))) h0) := by
  refine own_body (Jvm.Free.JP.mathPlain rfl (by decide +kernel)) ?_
  intro p e s m below meth c s₁ hx hZ hby hml hown hnm hret hlk X0 e0
  replace hown : s.vm.findClass "java/lang/Math" = some m.cls := hown
  replace hml : c.maxLocals = 2 := hml
  obtain ⟨P, hP⟩ : ∃ P, P = own_P below s (own_Pq (some (.int (own_min p0 p1))) h0) ({ frames := 0, cells := 0, slots := 0, locals := 0 } : Room).cells ({ frames := 0, cells := 0, slots := 0, locals := 0 } : Room).slots := ⟨_, rfl⟩
  rw [← hP]
  refine own_cast (ef_1 m p0 p1) ?_
  refine own_go (T' := s₁) (f' := (mkF m 2 #[.val (.int p0), .val (.int p1)] [(.int p1), (.int p0)])) (fun t kt => ?_) ?_
  · show Steps p.tables e below (s₁.setTop (mkF m 0 #[.val (.int p0), .val (.int p1)] [])) t
    refine XS.iloadN X0.here hx rfl (hb hby d1_0) rfl ?_
    show Steps p.tables e below (s₁.setTop (mkF m 1 #[.val (.int p0), .val (.int p1)] [(.int p0)])) t
    refine XS.iloadN X0.here hx rfl (hb hby d1_1) rfl ?_
    show Steps p.tables e below (s₁.setTop (mkF m 2 #[.val (.int p0), .val (.int p1)] [(.int p1), (.int p0)])) t
    exact kt
  by_cases hc2_1 : p1 < p0
  · refine own_go (T' := s₁) (f' := (mkF m 10 #[.val (.int p0), .val (.int p1)] [(.int p1)])) (fun t kt => ?_) ?_
    · show Steps p.tables e below (s₁.setTop (mkF m 2 #[.val (.int p0), .val (.int p1)] [(.int p1), (.int p0)])) t
      refine XS.icmpYes X0.here hx rfl (pc0 := 2) (pc' := 9) rfl (hb hby d1_2) rfl (tlt hc2_1).2.2.1 (by decide) (by decide) ?_
      show Steps p.tables e below (s₁.setTop (mkF m 9 #[.val (.int p0), .val (.int p1)] [])) t
      refine XS.iloadN X0.here hx rfl (hb hby d1_9) rfl ?_
      show Steps p.tables e below (s₁.setTop (mkF m 10 #[.val (.int p0), .val (.int p1)] [(.int p1)])) t
      exact kt
    exact own_retI X0 hP hx hlk e0 hret (hb hby d1_10) (by decide) (by decide) ⟨(by unfold own_min; simp [hc2_1]), rfl, rfl⟩
  · refine own_go (T' := s₁) (f' := (mkF m 10 #[.val (.int p0), .val (.int p1)] [(.int p0)])) (fun t kt => ?_) ?_
    · show Steps p.tables e below (s₁.setTop (mkF m 2 #[.val (.int p0), .val (.int p1)] [(.int p1), (.int p0)])) t
      refine XS.icmpNo X0.here hx rfl (hb hby d1_2) rfl (flt hc2_1).2.2.1 ?_
      show Steps p.tables e below (s₁.setTop (mkF m 5 #[.val (.int p0), .val (.int p1)] [])) t
      refine XS.iloadN X0.here hx rfl (hb hby d1_5) rfl ?_
      show Steps p.tables e below (s₁.setTop (mkF m 6 #[.val (.int p0), .val (.int p1)] [(.int p0)])) t
      refine XS.goto X0.here hx rfl (pc0 := 6) (pc' := 10) rfl (hb hby d1_6) (by decide) (by decide) ?_
      show Steps p.tables e below (s₁.setTop (mkF m 10 #[.val (.int p0), .val (.int p1)] [(.int p0)])) t
      exact kt
    exact own_retI X0 hP hx hlk e0 hret (hb hby d1_10) (by decide) (by decide) ⟨(by unfold own_min; simp [hc2_1]), rfl, rfl⟩
theorem d2_0 : decode jdk_29_method_65_code 0 = .ok (.iload_n 0, 1) := by decide +kernel
theorem d2_1 : decode jdk_29_method_65_code 1 = .ok (.iload_n 1, 1) := by decide +kernel
theorem d2_2 : decode jdk_29_method_65_code 2 = .ok (.if_icmp .lt 7, 3) := by decide +kernel
theorem d2_5 : decode jdk_29_method_65_code 5 = .ok (.iload_n 0, 1) := by decide +kernel
theorem d2_6 : decode jdk_29_method_65_code 6 = .ok (.goto 4, 3) := by decide +kernel
theorem d2_9 : decode jdk_29_method_65_code 9 = .ok (.iload_n 1, 1) := by decide +kernel
theorem d2_10 : decode jdk_29_method_65_code 10 = .ok (.ireturn, 1) := by decide +kernel
set_option maxRecDepth 65536 in
set_option maxHeartbeats 4000000 in
theorem ef_2 (m : MethodId) (p0 : Int32) (p1 : Int32) : entryFrame m #[(.int p0), (.int p1)] 2 = mkF m 0 #[.val (.int p0), .val (.int p1)] [] := by first | (simp [entryFrame, mkF, argsToLocals, Value.category]; done) | rfl
set_option maxRecDepth 65536 in
set_option maxHeartbeats 40000000 in
theorem rm2 (l : Launch) (Z : State) (aw : Array Value) (hw : ∀ d ∈ tables_1, d.before aw Z = true) {ws : List Jvm.Cond} (p0 : Int32) (p1 : Int32)  (h0 : Heap) (n0 : Nat) (Z0 : n0 ≤ h0.size)  :
    own_Met l Z (⟨"java/lang/Math", "max", "(II)I"⟩ : MethodName) jdk_29_method_65_code 2 (some .int) ws ({ frames := 0, cells := 0, slots := 0, locals := 0 } : Room) #[(.int p0), (.int p1)] h0 (own_Pq (some (.int (own_max p0 p1))) h0) := by
  refine own_body (Jvm.Free.JP.mathPlain rfl (by decide +kernel)) ?_
  intro p e s m below meth c s₁ hx hZ hby hml hown hnm hret hlk X0 e0
  replace hown : s.vm.findClass "java/lang/Math" = some m.cls := hown
  replace hml : c.maxLocals = 2 := hml
  obtain ⟨P, hP⟩ : ∃ P, P = own_P below s (own_Pq (some (.int (own_max p0 p1))) h0) ({ frames := 0, cells := 0, slots := 0, locals := 0 } : Room).cells ({ frames := 0, cells := 0, slots := 0, locals := 0 } : Room).slots := ⟨_, rfl⟩
  rw [← hP]
  refine own_cast (ef_2 m p0 p1) ?_
  refine own_go (T' := s₁) (f' := (mkF m 2 #[.val (.int p0), .val (.int p1)] [(.int p1), (.int p0)])) (fun t kt => ?_) ?_
  · show Steps p.tables e below (s₁.setTop (mkF m 0 #[.val (.int p0), .val (.int p1)] [])) t
    refine XS.iloadN X0.here hx rfl (hb hby d2_0) rfl ?_
    show Steps p.tables e below (s₁.setTop (mkF m 1 #[.val (.int p0), .val (.int p1)] [(.int p0)])) t
    refine XS.iloadN X0.here hx rfl (hb hby d2_1) rfl ?_
    show Steps p.tables e below (s₁.setTop (mkF m 2 #[.val (.int p0), .val (.int p1)] [(.int p1), (.int p0)])) t
    exact kt
  by_cases hc2_1 : p0 < p1
  · refine own_go (T' := s₁) (f' := (mkF m 10 #[.val (.int p0), .val (.int p1)] [(.int p1)])) (fun t kt => ?_) ?_
    · show Steps p.tables e below (s₁.setTop (mkF m 2 #[.val (.int p0), .val (.int p1)] [(.int p1), (.int p0)])) t
      refine XS.icmpYes X0.here hx rfl (pc0 := 2) (pc' := 9) rfl (hb hby d2_2) rfl (tlt hc2_1).1 (by decide) (by decide) ?_
      show Steps p.tables e below (s₁.setTop (mkF m 9 #[.val (.int p0), .val (.int p1)] [])) t
      refine XS.iloadN X0.here hx rfl (hb hby d2_9) rfl ?_
      show Steps p.tables e below (s₁.setTop (mkF m 10 #[.val (.int p0), .val (.int p1)] [(.int p1)])) t
      exact kt
    exact own_retI X0 hP hx hlk e0 hret (hb hby d2_10) (by decide) (by decide) ⟨(by unfold own_max; simp [hc2_1]), rfl, rfl⟩
  · refine own_go (T' := s₁) (f' := (mkF m 10 #[.val (.int p0), .val (.int p1)] [(.int p0)])) (fun t kt => ?_) ?_
    · show Steps p.tables e below (s₁.setTop (mkF m 2 #[.val (.int p0), .val (.int p1)] [(.int p1), (.int p0)])) t
      refine XS.icmpNo X0.here hx rfl (hb hby d2_2) rfl (flt hc2_1).1 ?_
      show Steps p.tables e below (s₁.setTop (mkF m 5 #[.val (.int p0), .val (.int p1)] [])) t
      refine XS.iloadN X0.here hx rfl (hb hby d2_5) rfl ?_
      show Steps p.tables e below (s₁.setTop (mkF m 6 #[.val (.int p0), .val (.int p1)] [(.int p0)])) t
      refine XS.goto X0.here hx rfl (pc0 := 6) (pc' := 10) rfl (hb hby d2_6) (by decide) (by decide) ?_
      show Steps p.tables e below (s₁.setTop (mkF m 10 #[.val (.int p0), .val (.int p1)] [(.int p0)])) t
      exact kt
    exact own_retI X0 hP hx hlk e0 hret (hb hby d2_10) (by decide) (by decide) ⟨(by unfold own_max; simp [hc2_1]), rfl, rfl⟩
theorem pn_0 : plainName "com/example/resemblr/resemblr/MinHash" = true := by first | (simp [plainName, overriddenIn]; done) | decide +kernel
theorem d3_0 : decode prog_16_method_2_code 0 = .ok (.iload_n 0, 1) := by decide +kernel
theorem d3_1 : decode prog_16_method_2_code 1 = .ok (.iconst 1, 1) := by decide +kernel
theorem d3_2 : decode prog_16_method_2_code 2 = .ok (.if_icmp .lt 13, 3) := by decide +kernel
theorem d3_5 : decode prog_16_method_2_code 5 = .ok (.iload_n 0, 1) := by decide +kernel
theorem d3_6 : decode prog_16_method_2_code 6 = .ok (.ldc 39, 2) := by decide +kernel
theorem d3_8 : decode prog_16_method_2_code 8 = .ok (.if_icmp .gt 7, 3) := by decide +kernel
theorem d3_11 : decode prog_16_method_2_code 11 = .ok (.iconst 1, 1) := by decide +kernel
theorem d3_12 : decode prog_16_method_2_code 12 = .ok (.goto 4, 3) := by decide +kernel
theorem d3_15 : decode prog_16_method_2_code 15 = .ok (.iconst 0, 1) := by decide +kernel
theorem d3_16 : decode prog_16_method_2_code 16 = .ok (.ireturn, 1) := by decide +kernel
set_option maxRecDepth 65536 in
set_option maxHeartbeats 4000000 in
theorem ef_3 (m : MethodId) (p0 : Int32) : entryFrame m #[(.int p0)] 1 = mkF m 0 #[.val (.int p0)] [] := by first | (simp [entryFrame, mkF, argsToLocals, Value.category]; done) | rfl
set_option maxRecDepth 65536 in
set_option maxHeartbeats 40000000 in
theorem rm3 (l : Launch) (Z : State) (aw : Array Value) (hw : ∀ d ∈ tables_1, d.before aw Z = true) {ws : List Jvm.Cond} (p0 : Int32)  (h0 : Heap) (n0 : Nat) (Z0 : n0 ≤ h0.size)  :
    own_Met l Z (⟨"com/example/resemblr/resemblr/MinHash", "isPerms", "(I)Z"⟩ : MethodName) prog_16_method_2_code 1 (some .boolean) ws ({ frames := 0, cells := 0, slots := 0, locals := 0 } : Room) #[(.int p0)] h0 (own_Pq (some (.int (own_z (own_Pm p0)))) h0) := by
  refine own_body (plainFor_of_name pn_0) ?_
  intro p e s m below meth c s₁ hx hZ hby hml hown hnm hret hlk X0 e0
  replace hown : s.vm.findClass "com/example/resemblr/resemblr/MinHash" = some m.cls := hown
  replace hml : c.maxLocals = 1 := hml
  obtain ⟨P, hP⟩ : ∃ P, P = own_P below s (own_Pq (some (.int (own_z (own_Pm p0)))) h0) ({ frames := 0, cells := 0, slots := 0, locals := 0 } : Room).cells ({ frames := 0, cells := 0, slots := 0, locals := 0 } : Room).slots := ⟨_, rfl⟩
  rw [← hP]
  refine own_cast (ef_3 m p0) ?_
  refine own_go (T' := s₁) (f' := (mkF m 2 #[.val (.int p0)] [(.int (1 : Int32)), (.int p0)])) (fun t kt => ?_) ?_
  · show Steps p.tables e below (s₁.setTop (mkF m 0 #[.val (.int p0)] [])) t
    refine XS.iloadN X0.here hx rfl (hb hby d3_0) rfl ?_
    show Steps p.tables e below (s₁.setTop (mkF m 1 #[.val (.int p0)] [(.int p0)])) t
    refine XS.iconst X0.here hx rfl (hb hby d3_1) ?_
    show Steps p.tables e below (s₁.setTop (mkF m 2 #[.val (.int p0)] [(.int (1 : Int32)), (.int p0)])) t
    exact kt
  by_cases hc2_1 : p0 < (1 : Int32)
  · refine own_go (T' := s₁) (f' := (mkF m 16 #[.val (.int p0)] [(.int (0 : Int32))])) (fun t kt => ?_) ?_
    · show Steps p.tables e below (s₁.setTop (mkF m 2 #[.val (.int p0)] [(.int (1 : Int32)), (.int p0)])) t
      refine XS.icmpYes X0.here hx rfl (pc0 := 2) (pc' := 15) rfl (hb hby d3_2) rfl (tlt hc2_1).1 (by decide) (by decide) ?_
      show Steps p.tables e below (s₁.setTop (mkF m 15 #[.val (.int p0)] [])) t
      refine XS.iconst X0.here hx rfl (hb hby d3_15) ?_
      show Steps p.tables e below (s₁.setTop (mkF m 16 #[.val (.int p0)] [(.int (0 : Int32))])) t
      exact kt
    exact own_retN X0 hP hx hlk e0 (t := .boolean) hret (by simp) (hb hby d3_16) (by decide) (by decide) (z' := (0 : Int32)) (by decide) ⟨(congrArg (fun w => some (Value.int w)) (own_z_f (by simp [own_Pm, hc2_1])).symm), rfl, rfl⟩
  · refine own_go (T' := s₁) (f' := (mkF m 8 #[.val (.int p0)] [(.int (65536 : Int32)), (.int p0)])) (fun t kt => ?_) ?_
    · show Steps p.tables e below (s₁.setTop (mkF m 2 #[.val (.int p0)] [(.int (1 : Int32)), (.int p0)])) t
      refine XS.icmpNo X0.here hx rfl (hb hby d3_2) rfl (flt hc2_1).1 ?_
      show Steps p.tables e below (s₁.setTop (mkF m 5 #[.val (.int p0)] [])) t
      refine XS.iloadN X0.here hx rfl (hb hby d3_5) rfl ?_
      show Steps p.tables e below (s₁.setTop (mkF m 6 #[.val (.int p0)] [(.int p0)])) t
      refine X0.ldcInt hx hown (mvT hZ (hw _ (List.mem_of_getElem? (i := 11) rfl))) (g := (mkF m 6 #[.val (.int p0)] [(.int p0)])) rfl (hb hby d3_6) _ ?_
      show Steps p.tables e below (s₁.setTop (mkF m 8 #[.val (.int p0)] [(.int (65536 : Int32)), (.int p0)])) t
      exact kt
    by_cases hc8_2 : (65536 : Int32) < p0
    · refine own_go (T' := s₁) (f' := (mkF m 16 #[.val (.int p0)] [(.int (0 : Int32))])) (fun t kt => ?_) ?_
      · show Steps p.tables e below (s₁.setTop (mkF m 8 #[.val (.int p0)] [(.int (65536 : Int32)), (.int p0)])) t
        refine XS.icmpYes X0.here hx rfl (pc0 := 8) (pc' := 15) rfl (hb hby d3_8) rfl (tlt hc8_2).2.2.1 (by decide) (by decide) ?_
        show Steps p.tables e below (s₁.setTop (mkF m 15 #[.val (.int p0)] [])) t
        refine XS.iconst X0.here hx rfl (hb hby d3_15) ?_
        show Steps p.tables e below (s₁.setTop (mkF m 16 #[.val (.int p0)] [(.int (0 : Int32))])) t
        exact kt
      exact own_retN X0 hP hx hlk e0 (t := .boolean) hret (by simp) (hb hby d3_16) (by decide) (by decide) (z' := (0 : Int32)) (by decide) ⟨(congrArg (fun w => some (Value.int w)) (own_z_f (by simp [own_Pm, hc2_1, hc8_2])).symm), rfl, rfl⟩
    · refine own_go (T' := s₁) (f' := (mkF m 16 #[.val (.int p0)] [(.int (1 : Int32))])) (fun t kt => ?_) ?_
      · show Steps p.tables e below (s₁.setTop (mkF m 8 #[.val (.int p0)] [(.int (65536 : Int32)), (.int p0)])) t
        refine XS.icmpNo X0.here hx rfl (hb hby d3_8) rfl (flt hc8_2).2.2.1 ?_
        show Steps p.tables e below (s₁.setTop (mkF m 11 #[.val (.int p0)] [])) t
        refine XS.iconst X0.here hx rfl (hb hby d3_11) ?_
        show Steps p.tables e below (s₁.setTop (mkF m 12 #[.val (.int p0)] [(.int (1 : Int32))])) t
        refine XS.goto X0.here hx rfl (pc0 := 12) (pc' := 16) rfl (hb hby d3_12) (by decide) (by decide) ?_
        show Steps p.tables e below (s₁.setTop (mkF m 16 #[.val (.int p0)] [(.int (1 : Int32))])) t
        exact kt
      exact own_retN X0 hP hx hlk e0 (t := .boolean) hret (by simp) (hb hby d3_16) (by decide) (by decide) (z' := (1 : Int32)) (by decide) ⟨(congrArg (fun w => some (Value.int w)) (own_z_t (by simp [own_Pm, hc2_1, hc8_2])).symm), rfl, rfl⟩
theorem pd_0 : parseMethodDescriptor "(II)I" = some ⟨[.int, .int], some .int⟩ := by decide +kernel
theorem pd_1 : parseMethodDescriptor "(I)Z" = some ⟨[.int], some .boolean⟩ := by decide +kernel
theorem pn_1 : plainName "com/example/resemblr/resemblr/MinHashIsPermsPinLaw" = true := by first | (simp [plainName, overriddenIn]; done) | decide +kernel
set_option maxRecDepth 65536 in
set_option maxHeartbeats 4000000 in
theorem ef_0 (m : MethodId) (p0 : Int32) (p1 : Int32) (p2 : Int32) : entryFrame m #[(.int p0), (.int p1), (.int p2)] maxLocals = mkF m 0 #[.val (.int p0), .val (.int p1), .val (.int p2), .unset, .unset, .unset, .unset, .unset, .unset, .unset, .unset] [] := by first | (simp [entryFrame, mkF, argsToLocals, Value.category, maxLocals]; done) | rfl
set_option maxRecDepth 65536 in
set_option maxHeartbeats 40000000 in
theorem rm0 (l : Launch) (Z : State) (aw : Array Value) (hw : ∀ d ∈ tables_1, d.before aw Z = true) {ws : List Jvm.Cond} (p0 : Int32) (p1 : Int32) (p2 : Int32)  (h0 : Heap) (n0 : Nat) (Z0 : n0 ≤ h0.size)  :
    own_Met l Z x code maxLocals ret ws room_1 #[(.int p0), (.int p1), (.int p2)] h0 (fun v h L => v = some (.int 1) ∧ Fr n0 L) := by
  refine own_body (plainFor_of_name pn_1) ?_
  intro p e s m below meth c s₁ hx hZ hby hml hown hnm hret hlk X0 e0
  replace hown : s.vm.findClass "com/example/resemblr/resemblr/MinHashIsPermsPinLaw" = some m.cls := hown
  replace hml : c.maxLocals = 11 := hml
  have N0 := Fr.nil n0
  have K0 := Keep.refl h0 []
  obtain ⟨P, hP⟩ : ∃ P, P = own_P below s (fun v h L => v = some (.int 1) ∧ Fr n0 L) room_1.cells room_1.slots := ⟨_, rfl⟩
  rw [← hP]
  refine own_cast (ef_0 m p0 p1 p2) ?_
  refine own_go (T' := s₁) (f' := (mkF m 3 #[.val (.int p0), .val (.int p1), .val (.int p2), .unset, .unset, .unset, .unset, .unset, .unset, .unset, .unset] [(.int p2), (.int p1), (.int p0)])) (fun t kt => ?_) ?_
  · show Steps p.tables e below (s₁.setTop (mkF m 0 #[.val (.int p0), .val (.int p1), .val (.int p2), .unset, .unset, .unset, .unset, .unset, .unset, .unset, .unset] [])) t
    refine XS.iloadN X0.here hx rfl (hb hby at_0) rfl ?_
    show Steps p.tables e below (s₁.setTop (mkF m 1 #[.val (.int p0), .val (.int p1), .val (.int p2), .unset, .unset, .unset, .unset, .unset, .unset, .unset, .unset] [(.int p0)])) t
    refine XS.iloadN X0.here hx rfl (hb hby at_1) rfl ?_
    show Steps p.tables e below (s₁.setTop (mkF m 2 #[.val (.int p0), .val (.int p1), .val (.int p2), .unset, .unset, .unset, .unset, .unset, .unset, .unset, .unset] [(.int p1), (.int p0)])) t
    refine XS.iloadN X0.here hx rfl (hb hby at_2) rfl ?_
    show Steps p.tables e below (s₁.setTop (mkF m 3 #[.val (.int p0), .val (.int p1), .val (.int p2), .unset, .unset, .unset, .unset, .unset, .unset, .unset, .unset] [(.int p2), (.int p1), (.int p0)])) t
    exact kt
  refine own_callSp X0 hx hZ hown e0 (hw _ (List.mem_of_getElem? (i := 0) rfl)) (hw _ (List.mem_of_getElem? (i := 1) rfl)) (hw _ (List.mem_of_getElem? (i := 2) rfl)) (hw _ (List.mem_of_getElem? (i := 3) rfl)) (by decide) (rm1 l Z aw hw p1 p2 h0 n0 Z0) (g := (mkF m 3 #[.val (.int p0), .val (.int p1), .val (.int p2), .unset, .unset, .unset, .unset, .unset, .unset, .unset, .unset] [(.int p2), (.int p1), (.int p0)])) rfl (by rw [hml]; rfl) (argsL := [(.int p1), (.int p2)]) (rest := [(.int p0)]) (lenOf pd_0 rfl) rfl rfl (W := 1) (by show 2 * 0 + _ ≤ _; exact Nat.le_of_eq rfl) (hb hby at_3) (by decide) (by decide) (by decide) (by decide) ?_
  intro T1 X1 e1
  refine own_callSp X1 hx hZ hown e1 (hw _ (List.mem_of_getElem? (i := 0) rfl)) (hw _ (List.mem_of_getElem? (i := 1) rfl)) (hw _ (List.mem_of_getElem? (i := 2) rfl)) (hw _ (List.mem_of_getElem? (i := 3) rfl)) (by decide) (rm1 l Z aw hw p0 (own_min p1 p2) h0 n0 Z0) (g := (mkF m 6 #[.val (.int p0), .val (.int p1), .val (.int p2), .unset, .unset, .unset, .unset, .unset, .unset, .unset, .unset] [(.int (own_min p1 p2)), (.int p0)])) rfl (by rw [hml]; rfl) (argsL := [(.int p0), (.int (own_min p1 p2))]) (rest := []) (lenOf pd_0 rfl) rfl rfl (W := 0) (by show 2 * 0 + _ ≤ _; exact Nat.le_of_eq rfl) (hb hby at_6) (by decide) (by decide) (by decide) (by decide) ?_
  intro T2 X2 e2
  obtain ⟨lo, hlo⟩ : ∃ z, z = (own_min p0 (own_min p1 p2)) := ⟨_, rfl⟩
  rw [← hlo]
  refine own_go (T' := T2) (f' := (mkF m 13 #[.val (.int p0), .val (.int p1), .val (.int p2), .val (.int lo), .unset, .unset, .unset, .unset, .unset, .unset, .unset] [(.int p2), (.int p1), (.int p0)])) (fun t kt => ?_) ?_
  · show Steps p.tables e below (T2.setTop (mkF m 9 #[.val (.int p0), .val (.int p1), .val (.int p2), .unset, .unset, .unset, .unset, .unset, .unset, .unset, .unset] [(.int lo)])) t
    refine XS.istoreN X2.here hx rfl (hb hby at_9) rfl (l' := #[.val (.int p0), .val (.int p1), .val (.int p2), .val (.int lo), .unset, .unset, .unset, .unset, .unset, .unset, .unset]) rfl ?_
    show Steps p.tables e below (T2.setTop (mkF m 10 #[.val (.int p0), .val (.int p1), .val (.int p2), .val (.int lo), .unset, .unset, .unset, .unset, .unset, .unset, .unset] [])) t
    refine XS.iloadN X2.here hx rfl (hb hby at_10) rfl ?_
    show Steps p.tables e below (T2.setTop (mkF m 11 #[.val (.int p0), .val (.int p1), .val (.int p2), .val (.int lo), .unset, .unset, .unset, .unset, .unset, .unset, .unset] [(.int p0)])) t
    refine XS.iloadN X2.here hx rfl (hb hby at_11) rfl ?_
    show Steps p.tables e below (T2.setTop (mkF m 12 #[.val (.int p0), .val (.int p1), .val (.int p2), .val (.int lo), .unset, .unset, .unset, .unset, .unset, .unset, .unset] [(.int p1), (.int p0)])) t
    refine XS.iloadN X2.here hx rfl (hb hby at_12) rfl ?_
    show Steps p.tables e below (T2.setTop (mkF m 13 #[.val (.int p0), .val (.int p1), .val (.int p2), .val (.int lo), .unset, .unset, .unset, .unset, .unset, .unset, .unset] [(.int p2), (.int p1), (.int p0)])) t
    exact kt
  refine own_callSp X2 hx hZ hown e2 (hw _ (List.mem_of_getElem? (i := 4) rfl)) (hw _ (List.mem_of_getElem? (i := 5) rfl)) (hw _ (List.mem_of_getElem? (i := 2) rfl)) (hw _ (List.mem_of_getElem? (i := 6) rfl)) (by decide) (rm2 l Z aw hw p1 p2 h0 n0 Z0) (g := (mkF m 13 #[.val (.int p0), .val (.int p1), .val (.int p2), .val (.int lo), .unset, .unset, .unset, .unset, .unset, .unset, .unset] [(.int p2), (.int p1), (.int p0)])) rfl (by rw [hml]; rfl) (argsL := [(.int p1), (.int p2)]) (rest := [(.int p0)]) (lenOf pd_0 rfl) rfl rfl (W := 1) (by show 2 * 0 + _ ≤ _; exact Nat.le_of_eq rfl) (hb hby at_13) (by decide) (by decide) (by decide) (by decide) ?_
  intro T3 X3 e3
  refine own_callSp X3 hx hZ hown e3 (hw _ (List.mem_of_getElem? (i := 4) rfl)) (hw _ (List.mem_of_getElem? (i := 5) rfl)) (hw _ (List.mem_of_getElem? (i := 2) rfl)) (hw _ (List.mem_of_getElem? (i := 6) rfl)) (by decide) (rm2 l Z aw hw p0 (own_max p1 p2) h0 n0 Z0) (g := (mkF m 16 #[.val (.int p0), .val (.int p1), .val (.int p2), .val (.int lo), .unset, .unset, .unset, .unset, .unset, .unset, .unset] [(.int (own_max p1 p2)), (.int p0)])) rfl (by rw [hml]; rfl) (argsL := [(.int p0), (.int (own_max p1 p2))]) (rest := []) (lenOf pd_0 rfl) rfl rfl (W := 0) (by show 2 * 0 + _ ≤ _; exact Nat.le_of_eq rfl) (hb hby at_16) (by decide) (by decide) (by decide) (by decide) ?_
  intro T4 X4 e4
  obtain ⟨hi, hhi⟩ : ∃ z, z = (own_max p0 (own_max p1 p2)) := ⟨_, rfl⟩
  rw [← hhi]
  refine own_go (T' := T4) (f' := (mkF m 31 #[.val (.int p0), .val (.int p1), .val (.int p2), .val (.int lo), .val (.int hi), .unset, .unset, .unset, .unset, .unset, .unset] [(.int ((((p0 + p1) + p2) - lo) - hi))])) (fun t kt => ?_) ?_
  · show Steps p.tables e below (T4.setTop (mkF m 19 #[.val (.int p0), .val (.int p1), .val (.int p2), .val (.int lo), .unset, .unset, .unset, .unset, .unset, .unset, .unset] [(.int hi)])) t
    refine XS.istore X4.here hx rfl (hb hby at_19) rfl (l' := #[.val (.int p0), .val (.int p1), .val (.int p2), .val (.int lo), .val (.int hi), .unset, .unset, .unset, .unset, .unset, .unset]) rfl ?_
    show Steps p.tables e below (T4.setTop (mkF m 21 #[.val (.int p0), .val (.int p1), .val (.int p2), .val (.int lo), .val (.int hi), .unset, .unset, .unset, .unset, .unset, .unset] [])) t
    refine XS.iloadN X4.here hx rfl (hb hby at_21) rfl ?_
    show Steps p.tables e below (T4.setTop (mkF m 22 #[.val (.int p0), .val (.int p1), .val (.int p2), .val (.int lo), .val (.int hi), .unset, .unset, .unset, .unset, .unset, .unset] [(.int p0)])) t
    refine XS.iloadN X4.here hx rfl (hb hby at_22) rfl ?_
    show Steps p.tables e below (T4.setTop (mkF m 23 #[.val (.int p0), .val (.int p1), .val (.int p2), .val (.int lo), .val (.int hi), .unset, .unset, .unset, .unset, .unset, .unset] [(.int p1), (.int p0)])) t
    refine XS.iadd X4.here hx rfl (hb hby at_23) rfl ?_
    show Steps p.tables e below (T4.setTop (mkF m 24 #[.val (.int p0), .val (.int p1), .val (.int p2), .val (.int lo), .val (.int hi), .unset, .unset, .unset, .unset, .unset, .unset] [(.int (p0 + p1))])) t
    refine XS.iloadN X4.here hx rfl (hb hby at_24) rfl ?_
    show Steps p.tables e below (T4.setTop (mkF m 25 #[.val (.int p0), .val (.int p1), .val (.int p2), .val (.int lo), .val (.int hi), .unset, .unset, .unset, .unset, .unset, .unset] [(.int p2), (.int (p0 + p1))])) t
    refine XS.iadd X4.here hx rfl (hb hby at_25) rfl ?_
    show Steps p.tables e below (T4.setTop (mkF m 26 #[.val (.int p0), .val (.int p1), .val (.int p2), .val (.int lo), .val (.int hi), .unset, .unset, .unset, .unset, .unset, .unset] [(.int ((p0 + p1) + p2))])) t
    refine XS.iloadN X4.here hx rfl (hb hby at_26) rfl ?_
    show Steps p.tables e below (T4.setTop (mkF m 27 #[.val (.int p0), .val (.int p1), .val (.int p2), .val (.int lo), .val (.int hi), .unset, .unset, .unset, .unset, .unset, .unset] [(.int lo), (.int ((p0 + p1) + p2))])) t
    refine XS.isub X4.here hx rfl (hb hby at_27) rfl ?_
    show Steps p.tables e below (T4.setTop (mkF m 28 #[.val (.int p0), .val (.int p1), .val (.int p2), .val (.int lo), .val (.int hi), .unset, .unset, .unset, .unset, .unset, .unset] [(.int (((p0 + p1) + p2) - lo))])) t
    refine XS.iload X4.here hx rfl (hb hby at_28) rfl ?_
    show Steps p.tables e below (T4.setTop (mkF m 30 #[.val (.int p0), .val (.int p1), .val (.int p2), .val (.int lo), .val (.int hi), .unset, .unset, .unset, .unset, .unset, .unset] [(.int hi), (.int (((p0 + p1) + p2) - lo))])) t
    refine XS.isub X4.here hx rfl (hb hby at_30) rfl ?_
    show Steps p.tables e below (T4.setTop (mkF m 31 #[.val (.int p0), .val (.int p1), .val (.int p2), .val (.int lo), .val (.int hi), .unset, .unset, .unset, .unset, .unset, .unset] [(.int ((((p0 + p1) + p2) - lo) - hi))])) t
    exact kt
  obtain ⟨mid, hmid⟩ : ∃ z, z = ((((p0 + p1) + p2) - lo) - hi) := ⟨_, rfl⟩
  rw [← hmid]
  refine own_go (T' := T4) (f' := (mkF m 34 #[.val (.int p0), .val (.int p1), .val (.int p2), .val (.int lo), .val (.int hi), .val (.int mid), .unset, .unset, .unset, .unset, .unset] [(.int lo)])) (fun t kt => ?_) ?_
  · show Steps p.tables e below (T4.setTop (mkF m 31 #[.val (.int p0), .val (.int p1), .val (.int p2), .val (.int lo), .val (.int hi), .unset, .unset, .unset, .unset, .unset, .unset] [(.int mid)])) t
    refine XS.istore X4.here hx rfl (hb hby at_31) rfl (l' := #[.val (.int p0), .val (.int p1), .val (.int p2), .val (.int lo), .val (.int hi), .val (.int mid), .unset, .unset, .unset, .unset, .unset]) rfl ?_
    show Steps p.tables e below (T4.setTop (mkF m 33 #[.val (.int p0), .val (.int p1), .val (.int p2), .val (.int lo), .val (.int hi), .val (.int mid), .unset, .unset, .unset, .unset, .unset] [])) t
    refine XS.iloadN X4.here hx rfl (hb hby at_33) rfl ?_
    show Steps p.tables e below (T4.setTop (mkF m 34 #[.val (.int p0), .val (.int p1), .val (.int p2), .val (.int lo), .val (.int hi), .val (.int mid), .unset, .unset, .unset, .unset, .unset] [(.int lo)])) t
    exact kt
  refine own_callSp X4 hx hZ hown e4 (hw _ (List.mem_of_getElem? (i := 7) rfl)) (hw _ (List.mem_of_getElem? (i := 8) rfl)) (hw _ (List.mem_of_getElem? (i := 9) rfl)) (hw _ (List.mem_of_getElem? (i := 10) rfl)) (by decide) (rm3 l Z aw hw lo h0 n0 Z0) (g := (mkF m 34 #[.val (.int p0), .val (.int p1), .val (.int p2), .val (.int lo), .val (.int hi), .val (.int mid), .unset, .unset, .unset, .unset, .unset] [(.int lo)])) rfl (by rw [hml]; rfl) (argsL := [(.int lo)]) (rest := []) (lenOf pd_1 rfl) rfl rfl (W := 0) (by show 2 * 0 + _ ≤ _; exact Nat.le_of_eq rfl) (hb hby at_34) (by decide) (by decide) (by decide) (by decide) ?_
  intro T5 X5 e5
  refine own_go (T' := T5) (f' := (mkF m 41 #[.val (.int p0), .val (.int p1), .val (.int p2), .val (.int lo), .val (.int hi), .val (.int mid), .val (.int (own_z (own_Pm lo))), .unset, .unset, .unset, .unset] [(.int mid)])) (fun t kt => ?_) ?_
  · show Steps p.tables e below (T5.setTop (mkF m 37 #[.val (.int p0), .val (.int p1), .val (.int p2), .val (.int lo), .val (.int hi), .val (.int mid), .unset, .unset, .unset, .unset, .unset] [(.int (own_z (own_Pm lo)))])) t
    refine XS.istore X5.here hx rfl (hb hby at_37) rfl (l' := #[.val (.int p0), .val (.int p1), .val (.int p2), .val (.int lo), .val (.int hi), .val (.int mid), .val (.int (own_z (own_Pm lo))), .unset, .unset, .unset, .unset]) rfl ?_
    show Steps p.tables e below (T5.setTop (mkF m 39 #[.val (.int p0), .val (.int p1), .val (.int p2), .val (.int lo), .val (.int hi), .val (.int mid), .val (.int (own_z (own_Pm lo))), .unset, .unset, .unset, .unset] [])) t
    refine XS.iload X5.here hx rfl (hb hby at_39) rfl ?_
    show Steps p.tables e below (T5.setTop (mkF m 41 #[.val (.int p0), .val (.int p1), .val (.int p2), .val (.int lo), .val (.int hi), .val (.int mid), .val (.int (own_z (own_Pm lo))), .unset, .unset, .unset, .unset] [(.int mid)])) t
    exact kt
  refine own_callSp X5 hx hZ hown e5 (hw _ (List.mem_of_getElem? (i := 7) rfl)) (hw _ (List.mem_of_getElem? (i := 8) rfl)) (hw _ (List.mem_of_getElem? (i := 9) rfl)) (hw _ (List.mem_of_getElem? (i := 10) rfl)) (by decide) (rm3 l Z aw hw mid h0 n0 Z0) (g := (mkF m 41 #[.val (.int p0), .val (.int p1), .val (.int p2), .val (.int lo), .val (.int hi), .val (.int mid), .val (.int (own_z (own_Pm lo))), .unset, .unset, .unset, .unset] [(.int mid)])) rfl (by rw [hml]; rfl) (argsL := [(.int mid)]) (rest := []) (lenOf pd_1 rfl) rfl rfl (W := 0) (by show 2 * 0 + _ ≤ _; exact Nat.le_of_eq rfl) (hb hby at_41) (by decide) (by decide) (by decide) (by decide) ?_
  intro T6 X6 e6
  refine own_go (T' := T6) (f' := (mkF m 48 #[.val (.int p0), .val (.int p1), .val (.int p2), .val (.int lo), .val (.int hi), .val (.int mid), .val (.int (own_z (own_Pm lo))), .val (.int (own_z (own_Pm mid))), .unset, .unset, .unset] [(.int hi)])) (fun t kt => ?_) ?_
  · show Steps p.tables e below (T6.setTop (mkF m 44 #[.val (.int p0), .val (.int p1), .val (.int p2), .val (.int lo), .val (.int hi), .val (.int mid), .val (.int (own_z (own_Pm lo))), .unset, .unset, .unset, .unset] [(.int (own_z (own_Pm mid)))])) t
    refine XS.istore X6.here hx rfl (hb hby at_44) rfl (l' := #[.val (.int p0), .val (.int p1), .val (.int p2), .val (.int lo), .val (.int hi), .val (.int mid), .val (.int (own_z (own_Pm lo))), .val (.int (own_z (own_Pm mid))), .unset, .unset, .unset]) rfl ?_
    show Steps p.tables e below (T6.setTop (mkF m 46 #[.val (.int p0), .val (.int p1), .val (.int p2), .val (.int lo), .val (.int hi), .val (.int mid), .val (.int (own_z (own_Pm lo))), .val (.int (own_z (own_Pm mid))), .unset, .unset, .unset] [])) t
    refine XS.iload X6.here hx rfl (hb hby at_46) rfl ?_
    show Steps p.tables e below (T6.setTop (mkF m 48 #[.val (.int p0), .val (.int p1), .val (.int p2), .val (.int lo), .val (.int hi), .val (.int mid), .val (.int (own_z (own_Pm lo))), .val (.int (own_z (own_Pm mid))), .unset, .unset, .unset] [(.int hi)])) t
    exact kt
  refine own_callSp X6 hx hZ hown e6 (hw _ (List.mem_of_getElem? (i := 7) rfl)) (hw _ (List.mem_of_getElem? (i := 8) rfl)) (hw _ (List.mem_of_getElem? (i := 9) rfl)) (hw _ (List.mem_of_getElem? (i := 10) rfl)) (by decide) (rm3 l Z aw hw hi h0 n0 Z0) (g := (mkF m 48 #[.val (.int p0), .val (.int p1), .val (.int p2), .val (.int lo), .val (.int hi), .val (.int mid), .val (.int (own_z (own_Pm lo))), .val (.int (own_z (own_Pm mid))), .unset, .unset, .unset] [(.int hi)])) rfl (by rw [hml]; rfl) (argsL := [(.int hi)]) (rest := []) (lenOf pd_1 rfl) rfl rfl (W := 0) (by show 2 * 0 + _ ≤ _; exact Nat.le_of_eq rfl) (hb hby at_48) (by decide) (by decide) (by decide) (by decide) ?_
  intro T7 X7 e7
  refine own_go (T' := T7) (f' := (mkF m 55 #[.val (.int p0), .val (.int p1), .val (.int p2), .val (.int lo), .val (.int hi), .val (.int mid), .val (.int (own_z (own_Pm lo))), .val (.int (own_z (own_Pm mid))), .val (.int (own_z (own_Pm hi))), .unset, .unset] [(.int (own_z (own_Pm lo)))])) (fun t kt => ?_) ?_
  · show Steps p.tables e below (T7.setTop (mkF m 51 #[.val (.int p0), .val (.int p1), .val (.int p2), .val (.int lo), .val (.int hi), .val (.int mid), .val (.int (own_z (own_Pm lo))), .val (.int (own_z (own_Pm mid))), .unset, .unset, .unset] [(.int (own_z (own_Pm hi)))])) t
    refine XS.istore X7.here hx rfl (hb hby at_51) rfl (l' := #[.val (.int p0), .val (.int p1), .val (.int p2), .val (.int lo), .val (.int hi), .val (.int mid), .val (.int (own_z (own_Pm lo))), .val (.int (own_z (own_Pm mid))), .val (.int (own_z (own_Pm hi))), .unset, .unset]) rfl ?_
    show Steps p.tables e below (T7.setTop (mkF m 53 #[.val (.int p0), .val (.int p1), .val (.int p2), .val (.int lo), .val (.int hi), .val (.int mid), .val (.int (own_z (own_Pm lo))), .val (.int (own_z (own_Pm mid))), .val (.int (own_z (own_Pm hi))), .unset, .unset] [])) t
    refine XS.iload X7.here hx rfl (hb hby at_53) rfl ?_
    show Steps p.tables e below (T7.setTop (mkF m 55 #[.val (.int p0), .val (.int p1), .val (.int p2), .val (.int lo), .val (.int hi), .val (.int mid), .val (.int (own_z (own_Pm lo))), .val (.int (own_z (own_Pm mid))), .val (.int (own_z (own_Pm hi))), .unset, .unset] [(.int (own_z (own_Pm lo)))])) t
    exact kt
  by_cases hc55_8 : (own_Pm lo)
  · refine own_go (T' := T7) (f' := (mkF m 60 #[.val (.int p0), .val (.int p1), .val (.int p2), .val (.int lo), .val (.int hi), .val (.int mid), .val (.int (own_z (own_Pm lo))), .val (.int (own_z (own_Pm mid))), .val (.int (own_z (own_Pm hi))), .unset, .unset] [(.int (own_z (own_Pm hi)))])) (fun t kt => ?_) ?_
    · show Steps p.tables e below (T7.setTop (mkF m 55 #[.val (.int p0), .val (.int p1), .val (.int p2), .val (.int lo), .val (.int hi), .val (.int mid), .val (.int (own_z (own_Pm lo))), .val (.int (own_z (own_Pm mid))), .val (.int (own_z (own_Pm hi))), .unset, .unset] [(.int (own_z (own_Pm lo)))])) t
      refine XS.ifNo X7.here hx rfl (hb hby at_55) rfl (own_zN_eq hc55_8) ?_
      show Steps p.tables e below (T7.setTop (mkF m 58 #[.val (.int p0), .val (.int p1), .val (.int p2), .val (.int lo), .val (.int hi), .val (.int mid), .val (.int (own_z (own_Pm lo))), .val (.int (own_z (own_Pm mid))), .val (.int (own_z (own_Pm hi))), .unset, .unset] [])) t
      refine XS.iload X7.here hx rfl (hb hby at_58) rfl ?_
      show Steps p.tables e below (T7.setTop (mkF m 60 #[.val (.int p0), .val (.int p1), .val (.int p2), .val (.int lo), .val (.int hi), .val (.int mid), .val (.int (own_z (own_Pm lo))), .val (.int (own_z (own_Pm mid))), .val (.int (own_z (own_Pm hi))), .unset, .unset] [(.int (own_z (own_Pm hi)))])) t
      exact kt
    by_cases hc60_9 : (own_Pm hi)
    · refine own_go (T' := T7) (f' := (mkF m 76 #[.val (.int p0), .val (.int p1), .val (.int p2), .val (.int lo), .val (.int hi), .val (.int mid), .val (.int (own_z (own_Pm lo))), .val (.int (own_z (own_Pm mid))), .val (.int (own_z (own_Pm hi))), .val (.int (1 : Int32)), .unset] [(.int (1 : Int32))])) (fun t kt => ?_) ?_
      · show Steps p.tables e below (T7.setTop (mkF m 60 #[.val (.int p0), .val (.int p1), .val (.int p2), .val (.int lo), .val (.int hi), .val (.int mid), .val (.int (own_z (own_Pm lo))), .val (.int (own_z (own_Pm mid))), .val (.int (own_z (own_Pm hi))), .unset, .unset] [(.int (own_z (own_Pm hi)))])) t
        refine XS.ifNo X7.here hx rfl (hb hby at_60) rfl (own_zN_eq hc60_9) ?_
        show Steps p.tables e below (T7.setTop (mkF m 63 #[.val (.int p0), .val (.int p1), .val (.int p2), .val (.int lo), .val (.int hi), .val (.int mid), .val (.int (own_z (own_Pm lo))), .val (.int (own_z (own_Pm mid))), .val (.int (own_z (own_Pm hi))), .unset, .unset] [])) t
        refine XS.iload X7.here hx rfl (hb hby at_63) rfl ?_
        show Steps p.tables e below (T7.setTop (mkF m 65 #[.val (.int p0), .val (.int p1), .val (.int p2), .val (.int lo), .val (.int hi), .val (.int mid), .val (.int (own_z (own_Pm lo))), .val (.int (own_z (own_Pm mid))), .val (.int (own_z (own_Pm hi))), .unset, .unset] [(.int (own_z (own_Pm mid)))])) t
        refine XS.ifNo X7.here hx rfl (hb hby at_65) rfl (own_zN_eq (show (own_Pm mid) from own_conv hlo hhi hmid hc55_8 hc60_9)) ?_
        show Steps p.tables e below (T7.setTop (mkF m 68 #[.val (.int p0), .val (.int p1), .val (.int p2), .val (.int lo), .val (.int hi), .val (.int mid), .val (.int (own_z (own_Pm lo))), .val (.int (own_z (own_Pm mid))), .val (.int (own_z (own_Pm hi))), .unset, .unset] [])) t
        refine XS.iconst X7.here hx rfl (hb hby at_68) ?_
        show Steps p.tables e below (T7.setTop (mkF m 69 #[.val (.int p0), .val (.int p1), .val (.int p2), .val (.int lo), .val (.int hi), .val (.int mid), .val (.int (own_z (own_Pm lo))), .val (.int (own_z (own_Pm mid))), .val (.int (own_z (own_Pm hi))), .unset, .unset] [(.int (1 : Int32))])) t
        refine XS.goto X7.here hx rfl (pc0 := 69) (pc' := 73) rfl (hb hby at_69) (by decide) (by decide) ?_
        show Steps p.tables e below (T7.setTop (mkF m 73 #[.val (.int p0), .val (.int p1), .val (.int p2), .val (.int lo), .val (.int hi), .val (.int mid), .val (.int (own_z (own_Pm lo))), .val (.int (own_z (own_Pm mid))), .val (.int (own_z (own_Pm hi))), .unset, .unset] [(.int (1 : Int32))])) t
        refine XS.istore X7.here hx rfl (hb hby at_73) rfl (l' := #[.val (.int p0), .val (.int p1), .val (.int p2), .val (.int lo), .val (.int hi), .val (.int mid), .val (.int (own_z (own_Pm lo))), .val (.int (own_z (own_Pm mid))), .val (.int (own_z (own_Pm hi))), .val (.int (1 : Int32)), .unset]) rfl ?_
        show Steps p.tables e below (T7.setTop (mkF m 75 #[.val (.int p0), .val (.int p1), .val (.int p2), .val (.int lo), .val (.int hi), .val (.int mid), .val (.int (own_z (own_Pm lo))), .val (.int (own_z (own_Pm mid))), .val (.int (own_z (own_Pm hi))), .val (.int (1 : Int32)), .unset] [])) t
        refine XS.iconst X7.here hx rfl (hb hby at_75) ?_
        show Steps p.tables e below (T7.setTop (mkF m 76 #[.val (.int p0), .val (.int p1), .val (.int p2), .val (.int lo), .val (.int hi), .val (.int mid), .val (.int (own_z (own_Pm lo))), .val (.int (own_z (own_Pm mid))), .val (.int (own_z (own_Pm hi))), .val (.int (1 : Int32)), .unset] [(.int (1 : Int32))])) t
        exact kt
      refine own_callSp X7 hx hZ hown e7 (hw _ (List.mem_of_getElem? (i := 7) rfl)) (hw _ (List.mem_of_getElem? (i := 8) rfl)) (hw _ (List.mem_of_getElem? (i := 9) rfl)) (hw _ (List.mem_of_getElem? (i := 10) rfl)) (by decide) (rm3 l Z aw hw (1 : Int32) h0 n0 Z0) (g := (mkF m 76 #[.val (.int p0), .val (.int p1), .val (.int p2), .val (.int lo), .val (.int hi), .val (.int mid), .val (.int (own_z (own_Pm lo))), .val (.int (own_z (own_Pm mid))), .val (.int (own_z (own_Pm hi))), .val (.int (1 : Int32)), .unset] [(.int (1 : Int32))])) rfl (by rw [hml]; rfl) (argsL := [(.int (1 : Int32))]) (rest := []) (lenOf pd_1 rfl) rfl rfl (W := 0) (by show 2 * 0 + _ ≤ _; exact Nat.le_of_eq rfl) (hb hby at_76) (by decide) (by decide) (by decide) (by decide) ?_
      intro T10 X10 e10
      refine own_go (T' := T10) (f' := (mkF m 84 #[.val (.int p0), .val (.int p1), .val (.int p2), .val (.int lo), .val (.int hi), .val (.int mid), .val (.int (own_z (own_Pm lo))), .val (.int (own_z (own_Pm mid))), .val (.int (own_z (own_Pm hi))), .val (.int (1 : Int32)), .unset] [(.int (65536 : Int32))])) (fun t kt => ?_) ?_
      · show Steps p.tables e below (T10.setTop (mkF m 79 #[.val (.int p0), .val (.int p1), .val (.int p2), .val (.int lo), .val (.int hi), .val (.int mid), .val (.int (own_z (own_Pm lo))), .val (.int (own_z (own_Pm mid))), .val (.int (own_z (own_Pm hi))), .val (.int (1 : Int32)), .unset] [(.int (own_z (own_Pm (1 : Int32))))])) t
        refine XS.ifNo X10.here hx rfl (hb hby at_79) rfl (own_zN_eq (show (own_Pm (1 : Int32)) from by decide)) ?_
        show Steps p.tables e below (T10.setTop (mkF m 82 #[.val (.int p0), .val (.int p1), .val (.int p2), .val (.int lo), .val (.int hi), .val (.int mid), .val (.int (own_z (own_Pm lo))), .val (.int (own_z (own_Pm mid))), .val (.int (own_z (own_Pm hi))), .val (.int (1 : Int32)), .unset] [])) t
        refine X10.ldcInt hx hown (mvT hZ (hw _ (List.mem_of_getElem? (i := 12) rfl))) (g := (mkF m 82 #[.val (.int p0), .val (.int p1), .val (.int p2), .val (.int lo), .val (.int hi), .val (.int mid), .val (.int (own_z (own_Pm lo))), .val (.int (own_z (own_Pm mid))), .val (.int (own_z (own_Pm hi))), .val (.int (1 : Int32)), .unset] [])) rfl (hb hby at_82) _ ?_
        show Steps p.tables e below (T10.setTop (mkF m 84 #[.val (.int p0), .val (.int p1), .val (.int p2), .val (.int lo), .val (.int hi), .val (.int mid), .val (.int (own_z (own_Pm lo))), .val (.int (own_z (own_Pm mid))), .val (.int (own_z (own_Pm hi))), .val (.int (1 : Int32)), .unset] [(.int (65536 : Int32))])) t
        exact kt
      refine own_callSp X10 hx hZ hown e10 (hw _ (List.mem_of_getElem? (i := 7) rfl)) (hw _ (List.mem_of_getElem? (i := 8) rfl)) (hw _ (List.mem_of_getElem? (i := 9) rfl)) (hw _ (List.mem_of_getElem? (i := 10) rfl)) (by decide) (rm3 l Z aw hw (65536 : Int32) h0 n0 Z0) (g := (mkF m 84 #[.val (.int p0), .val (.int p1), .val (.int p2), .val (.int lo), .val (.int hi), .val (.int mid), .val (.int (own_z (own_Pm lo))), .val (.int (own_z (own_Pm mid))), .val (.int (own_z (own_Pm hi))), .val (.int (1 : Int32)), .unset] [(.int (65536 : Int32))])) rfl (by rw [hml]; rfl) (argsL := [(.int (65536 : Int32))]) (rest := []) (lenOf pd_1 rfl) rfl rfl (W := 0) (by show 2 * 0 + _ ≤ _; exact Nat.le_of_eq rfl) (hb hby at_84) (by decide) (by decide) (by decide) (by decide) ?_
      intro T11 X11 e11
      refine own_go (T' := T11) (f' := (mkF m 91 #[.val (.int p0), .val (.int p1), .val (.int p2), .val (.int lo), .val (.int hi), .val (.int mid), .val (.int (own_z (own_Pm lo))), .val (.int (own_z (own_Pm mid))), .val (.int (own_z (own_Pm hi))), .val (.int (1 : Int32)), .unset] [(.int (0 : Int32))])) (fun t kt => ?_) ?_
      · show Steps p.tables e below (T11.setTop (mkF m 87 #[.val (.int p0), .val (.int p1), .val (.int p2), .val (.int lo), .val (.int hi), .val (.int mid), .val (.int (own_z (own_Pm lo))), .val (.int (own_z (own_Pm mid))), .val (.int (own_z (own_Pm hi))), .val (.int (1 : Int32)), .unset] [(.int (own_z (own_Pm (65536 : Int32))))])) t
        refine XS.ifNo X11.here hx rfl (hb hby at_87) rfl (own_zN_eq (show (own_Pm (65536 : Int32)) from by decide)) ?_
        show Steps p.tables e below (T11.setTop (mkF m 90 #[.val (.int p0), .val (.int p1), .val (.int p2), .val (.int lo), .val (.int hi), .val (.int mid), .val (.int (own_z (own_Pm lo))), .val (.int (own_z (own_Pm mid))), .val (.int (own_z (own_Pm hi))), .val (.int (1 : Int32)), .unset] [])) t
        refine XS.iconst X11.here hx rfl (hb hby at_90) ?_
        show Steps p.tables e below (T11.setTop (mkF m 91 #[.val (.int p0), .val (.int p1), .val (.int p2), .val (.int lo), .val (.int hi), .val (.int mid), .val (.int (own_z (own_Pm lo))), .val (.int (own_z (own_Pm mid))), .val (.int (own_z (own_Pm hi))), .val (.int (1 : Int32)), .unset] [(.int (0 : Int32))])) t
        exact kt
      refine own_callSp X11 hx hZ hown e11 (hw _ (List.mem_of_getElem? (i := 7) rfl)) (hw _ (List.mem_of_getElem? (i := 8) rfl)) (hw _ (List.mem_of_getElem? (i := 9) rfl)) (hw _ (List.mem_of_getElem? (i := 10) rfl)) (by decide) (rm3 l Z aw hw (0 : Int32) h0 n0 Z0) (g := (mkF m 91 #[.val (.int p0), .val (.int p1), .val (.int p2), .val (.int lo), .val (.int hi), .val (.int mid), .val (.int (own_z (own_Pm lo))), .val (.int (own_z (own_Pm mid))), .val (.int (own_z (own_Pm hi))), .val (.int (1 : Int32)), .unset] [(.int (0 : Int32))])) rfl (by rw [hml]; rfl) (argsL := [(.int (0 : Int32))]) (rest := []) (lenOf pd_1 rfl) rfl rfl (W := 0) (by show 2 * 0 + _ ≤ _; exact Nat.le_of_eq rfl) (hb hby at_91) (by decide) (by decide) (by decide) (by decide) ?_
      intro T12 X12 e12
      refine own_go (T' := T12) (f' := (mkF m 99 #[.val (.int p0), .val (.int p1), .val (.int p2), .val (.int lo), .val (.int hi), .val (.int mid), .val (.int (own_z (own_Pm lo))), .val (.int (own_z (own_Pm mid))), .val (.int (own_z (own_Pm hi))), .val (.int (1 : Int32)), .unset] [(.int (65537 : Int32))])) (fun t kt => ?_) ?_
      · show Steps p.tables e below (T12.setTop (mkF m 94 #[.val (.int p0), .val (.int p1), .val (.int p2), .val (.int lo), .val (.int hi), .val (.int mid), .val (.int (own_z (own_Pm lo))), .val (.int (own_z (own_Pm mid))), .val (.int (own_z (own_Pm hi))), .val (.int (1 : Int32)), .unset] [(.int (own_z (own_Pm (0 : Int32))))])) t
        refine XS.ifNo X12.here hx rfl (hb hby at_94) rfl (own_zN_ne (show ¬ ((own_Pm (0 : Int32))) from by decide)) ?_
        show Steps p.tables e below (T12.setTop (mkF m 97 #[.val (.int p0), .val (.int p1), .val (.int p2), .val (.int lo), .val (.int hi), .val (.int mid), .val (.int (own_z (own_Pm lo))), .val (.int (own_z (own_Pm mid))), .val (.int (own_z (own_Pm hi))), .val (.int (1 : Int32)), .unset] [])) t
        refine X12.ldcInt hx hown (mvT hZ (hw _ (List.mem_of_getElem? (i := 13) rfl))) (g := (mkF m 97 #[.val (.int p0), .val (.int p1), .val (.int p2), .val (.int lo), .val (.int hi), .val (.int mid), .val (.int (own_z (own_Pm lo))), .val (.int (own_z (own_Pm mid))), .val (.int (own_z (own_Pm hi))), .val (.int (1 : Int32)), .unset] [])) rfl (hb hby at_97) _ ?_
        show Steps p.tables e below (T12.setTop (mkF m 99 #[.val (.int p0), .val (.int p1), .val (.int p2), .val (.int lo), .val (.int hi), .val (.int mid), .val (.int (own_z (own_Pm lo))), .val (.int (own_z (own_Pm mid))), .val (.int (own_z (own_Pm hi))), .val (.int (1 : Int32)), .unset] [(.int (65537 : Int32))])) t
        exact kt
      refine own_callSp X12 hx hZ hown e12 (hw _ (List.mem_of_getElem? (i := 7) rfl)) (hw _ (List.mem_of_getElem? (i := 8) rfl)) (hw _ (List.mem_of_getElem? (i := 9) rfl)) (hw _ (List.mem_of_getElem? (i := 10) rfl)) (by decide) (rm3 l Z aw hw (65537 : Int32) h0 n0 Z0) (g := (mkF m 99 #[.val (.int p0), .val (.int p1), .val (.int p2), .val (.int lo), .val (.int hi), .val (.int mid), .val (.int (own_z (own_Pm lo))), .val (.int (own_z (own_Pm mid))), .val (.int (own_z (own_Pm hi))), .val (.int (1 : Int32)), .unset] [(.int (65537 : Int32))])) rfl (by rw [hml]; rfl) (argsL := [(.int (65537 : Int32))]) (rest := []) (lenOf pd_1 rfl) rfl rfl (W := 0) (by show 2 * 0 + _ ≤ _; exact Nat.le_of_eq rfl) (hb hby at_99) (by decide) (by decide) (by decide) (by decide) ?_
      intro T13 X13 e13
      refine own_go (T' := T13) (f' := (mkF m 127 #[.val (.int p0), .val (.int p1), .val (.int p2), .val (.int lo), .val (.int hi), .val (.int mid), .val (.int (own_z (own_Pm lo))), .val (.int (own_z (own_Pm mid))), .val (.int (own_z (own_Pm hi))), .val (.int (1 : Int32)), .val (.int (1 : Int32))] [(.int (1 : Int32))])) (fun t kt => ?_) ?_
      · show Steps p.tables e below (T13.setTop (mkF m 102 #[.val (.int p0), .val (.int p1), .val (.int p2), .val (.int lo), .val (.int hi), .val (.int mid), .val (.int (own_z (own_Pm lo))), .val (.int (own_z (own_Pm mid))), .val (.int (own_z (own_Pm hi))), .val (.int (1 : Int32)), .unset] [(.int (own_z (own_Pm (65537 : Int32))))])) t
        refine XS.ifNo X13.here hx rfl (hb hby at_102) rfl (own_zN_ne (show ¬ ((own_Pm (65537 : Int32))) from by decide)) ?_
        show Steps p.tables e below (T13.setTop (mkF m 105 #[.val (.int p0), .val (.int p1), .val (.int p2), .val (.int lo), .val (.int hi), .val (.int mid), .val (.int (own_z (own_Pm lo))), .val (.int (own_z (own_Pm mid))), .val (.int (own_z (own_Pm hi))), .val (.int (1 : Int32)), .unset] [])) t
        refine XS.iconst X13.here hx rfl (hb hby at_105) ?_
        show Steps p.tables e below (T13.setTop (mkF m 106 #[.val (.int p0), .val (.int p1), .val (.int p2), .val (.int lo), .val (.int hi), .val (.int mid), .val (.int (own_z (own_Pm lo))), .val (.int (own_z (own_Pm mid))), .val (.int (own_z (own_Pm hi))), .val (.int (1 : Int32)), .unset] [(.int (1 : Int32))])) t
        refine XS.goto X13.here hx rfl (pc0 := 106) (pc' := 110) rfl (hb hby at_106) (by decide) (by decide) ?_
        show Steps p.tables e below (T13.setTop (mkF m 110 #[.val (.int p0), .val (.int p1), .val (.int p2), .val (.int lo), .val (.int hi), .val (.int mid), .val (.int (own_z (own_Pm lo))), .val (.int (own_z (own_Pm mid))), .val (.int (own_z (own_Pm hi))), .val (.int (1 : Int32)), .unset] [(.int (1 : Int32))])) t
        refine XS.istore X13.here hx rfl (hb hby at_110) rfl (l' := #[.val (.int p0), .val (.int p1), .val (.int p2), .val (.int lo), .val (.int hi), .val (.int mid), .val (.int (own_z (own_Pm lo))), .val (.int (own_z (own_Pm mid))), .val (.int (own_z (own_Pm hi))), .val (.int (1 : Int32)), .val (.int (1 : Int32))]) rfl ?_
        show Steps p.tables e below (T13.setTop (mkF m 112 #[.val (.int p0), .val (.int p1), .val (.int p2), .val (.int lo), .val (.int hi), .val (.int mid), .val (.int (own_z (own_Pm lo))), .val (.int (own_z (own_Pm mid))), .val (.int (own_z (own_Pm hi))), .val (.int (1 : Int32)), .val (.int (1 : Int32))] [])) t
        refine XS.iload X13.here hx rfl (hb hby at_112) rfl ?_
        show Steps p.tables e below (T13.setTop (mkF m 114 #[.val (.int p0), .val (.int p1), .val (.int p2), .val (.int lo), .val (.int hi), .val (.int mid), .val (.int (own_z (own_Pm lo))), .val (.int (own_z (own_Pm mid))), .val (.int (own_z (own_Pm hi))), .val (.int (1 : Int32)), .val (.int (1 : Int32))] [(.int (1 : Int32))])) t
        refine XS.ifNo X13.here hx rfl (hb hby at_114) rfl (by decide) ?_
        show Steps p.tables e below (T13.setTop (mkF m 117 #[.val (.int p0), .val (.int p1), .val (.int p2), .val (.int lo), .val (.int hi), .val (.int mid), .val (.int (own_z (own_Pm lo))), .val (.int (own_z (own_Pm mid))), .val (.int (own_z (own_Pm hi))), .val (.int (1 : Int32)), .val (.int (1 : Int32))] [])) t
        refine XS.iload X13.here hx rfl (hb hby at_117) rfl ?_
        show Steps p.tables e below (T13.setTop (mkF m 119 #[.val (.int p0), .val (.int p1), .val (.int p2), .val (.int lo), .val (.int hi), .val (.int mid), .val (.int (own_z (own_Pm lo))), .val (.int (own_z (own_Pm mid))), .val (.int (own_z (own_Pm hi))), .val (.int (1 : Int32)), .val (.int (1 : Int32))] [(.int (1 : Int32))])) t
        refine XS.ifNo X13.here hx rfl (hb hby at_119) rfl (by decide) ?_
        show Steps p.tables e below (T13.setTop (mkF m 122 #[.val (.int p0), .val (.int p1), .val (.int p2), .val (.int lo), .val (.int hi), .val (.int mid), .val (.int (own_z (own_Pm lo))), .val (.int (own_z (own_Pm mid))), .val (.int (own_z (own_Pm hi))), .val (.int (1 : Int32)), .val (.int (1 : Int32))] [])) t
        refine XS.iconst X13.here hx rfl (hb hby at_122) ?_
        show Steps p.tables e below (T13.setTop (mkF m 123 #[.val (.int p0), .val (.int p1), .val (.int p2), .val (.int lo), .val (.int hi), .val (.int mid), .val (.int (own_z (own_Pm lo))), .val (.int (own_z (own_Pm mid))), .val (.int (own_z (own_Pm hi))), .val (.int (1 : Int32)), .val (.int (1 : Int32))] [(.int (1 : Int32))])) t
        refine XS.goto X13.here hx rfl (pc0 := 123) (pc' := 127) rfl (hb hby at_123) (by decide) (by decide) ?_
        show Steps p.tables e below (T13.setTop (mkF m 127 #[.val (.int p0), .val (.int p1), .val (.int p2), .val (.int lo), .val (.int hi), .val (.int mid), .val (.int (own_z (own_Pm lo))), .val (.int (own_z (own_Pm mid))), .val (.int (own_z (own_Pm hi))), .val (.int (1 : Int32)), .val (.int (1 : Int32))] [(.int (1 : Int32))])) t
        exact kt
      exact own_retN X13 hP hx hlk e13 (t := .boolean) hret (by simp) (hb hby at_127) (by decide) (by decide) (z' := (1 : Int32)) rfl ⟨rfl, N0⟩
    · refine own_go (T' := T7) (f' := (mkF m 76 #[.val (.int p0), .val (.int p1), .val (.int p2), .val (.int lo), .val (.int hi), .val (.int mid), .val (.int (own_z (own_Pm lo))), .val (.int (own_z (own_Pm mid))), .val (.int (own_z (own_Pm hi))), .val (.int (1 : Int32)), .unset] [(.int (1 : Int32))])) (fun t kt => ?_) ?_
      · show Steps p.tables e below (T7.setTop (mkF m 60 #[.val (.int p0), .val (.int p1), .val (.int p2), .val (.int lo), .val (.int hi), .val (.int mid), .val (.int (own_z (own_Pm lo))), .val (.int (own_z (own_Pm mid))), .val (.int (own_z (own_Pm hi))), .unset, .unset] [(.int (own_z (own_Pm hi)))])) t
        refine XS.ifYes X7.here hx rfl (pc0 := 60) (pc' := 68) rfl (hb hby at_60) rfl (own_zY_eq hc60_9) (by decide) (by decide) ?_
        show Steps p.tables e below (T7.setTop (mkF m 68 #[.val (.int p0), .val (.int p1), .val (.int p2), .val (.int lo), .val (.int hi), .val (.int mid), .val (.int (own_z (own_Pm lo))), .val (.int (own_z (own_Pm mid))), .val (.int (own_z (own_Pm hi))), .unset, .unset] [])) t
        refine XS.iconst X7.here hx rfl (hb hby at_68) ?_
        show Steps p.tables e below (T7.setTop (mkF m 69 #[.val (.int p0), .val (.int p1), .val (.int p2), .val (.int lo), .val (.int hi), .val (.int mid), .val (.int (own_z (own_Pm lo))), .val (.int (own_z (own_Pm mid))), .val (.int (own_z (own_Pm hi))), .unset, .unset] [(.int (1 : Int32))])) t
        refine XS.goto X7.here hx rfl (pc0 := 69) (pc' := 73) rfl (hb hby at_69) (by decide) (by decide) ?_
        show Steps p.tables e below (T7.setTop (mkF m 73 #[.val (.int p0), .val (.int p1), .val (.int p2), .val (.int lo), .val (.int hi), .val (.int mid), .val (.int (own_z (own_Pm lo))), .val (.int (own_z (own_Pm mid))), .val (.int (own_z (own_Pm hi))), .unset, .unset] [(.int (1 : Int32))])) t
        refine XS.istore X7.here hx rfl (hb hby at_73) rfl (l' := #[.val (.int p0), .val (.int p1), .val (.int p2), .val (.int lo), .val (.int hi), .val (.int mid), .val (.int (own_z (own_Pm lo))), .val (.int (own_z (own_Pm mid))), .val (.int (own_z (own_Pm hi))), .val (.int (1 : Int32)), .unset]) rfl ?_
        show Steps p.tables e below (T7.setTop (mkF m 75 #[.val (.int p0), .val (.int p1), .val (.int p2), .val (.int lo), .val (.int hi), .val (.int mid), .val (.int (own_z (own_Pm lo))), .val (.int (own_z (own_Pm mid))), .val (.int (own_z (own_Pm hi))), .val (.int (1 : Int32)), .unset] [])) t
        refine XS.iconst X7.here hx rfl (hb hby at_75) ?_
        show Steps p.tables e below (T7.setTop (mkF m 76 #[.val (.int p0), .val (.int p1), .val (.int p2), .val (.int lo), .val (.int hi), .val (.int mid), .val (.int (own_z (own_Pm lo))), .val (.int (own_z (own_Pm mid))), .val (.int (own_z (own_Pm hi))), .val (.int (1 : Int32)), .unset] [(.int (1 : Int32))])) t
        exact kt
      refine own_callSp X7 hx hZ hown e7 (hw _ (List.mem_of_getElem? (i := 7) rfl)) (hw _ (List.mem_of_getElem? (i := 8) rfl)) (hw _ (List.mem_of_getElem? (i := 9) rfl)) (hw _ (List.mem_of_getElem? (i := 10) rfl)) (by decide) (rm3 l Z aw hw (1 : Int32) h0 n0 Z0) (g := (mkF m 76 #[.val (.int p0), .val (.int p1), .val (.int p2), .val (.int lo), .val (.int hi), .val (.int mid), .val (.int (own_z (own_Pm lo))), .val (.int (own_z (own_Pm mid))), .val (.int (own_z (own_Pm hi))), .val (.int (1 : Int32)), .unset] [(.int (1 : Int32))])) rfl (by rw [hml]; rfl) (argsL := [(.int (1 : Int32))]) (rest := []) (lenOf pd_1 rfl) rfl rfl (W := 0) (by show 2 * 0 + _ ≤ _; exact Nat.le_of_eq rfl) (hb hby at_76) (by decide) (by decide) (by decide) (by decide) ?_
      intro T14 X14 e14
      refine own_go (T' := T14) (f' := (mkF m 84 #[.val (.int p0), .val (.int p1), .val (.int p2), .val (.int lo), .val (.int hi), .val (.int mid), .val (.int (own_z (own_Pm lo))), .val (.int (own_z (own_Pm mid))), .val (.int (own_z (own_Pm hi))), .val (.int (1 : Int32)), .unset] [(.int (65536 : Int32))])) (fun t kt => ?_) ?_
      · show Steps p.tables e below (T14.setTop (mkF m 79 #[.val (.int p0), .val (.int p1), .val (.int p2), .val (.int lo), .val (.int hi), .val (.int mid), .val (.int (own_z (own_Pm lo))), .val (.int (own_z (own_Pm mid))), .val (.int (own_z (own_Pm hi))), .val (.int (1 : Int32)), .unset] [(.int (own_z (own_Pm (1 : Int32))))])) t
        refine XS.ifNo X14.here hx rfl (hb hby at_79) rfl (own_zN_eq (show (own_Pm (1 : Int32)) from by decide)) ?_
        show Steps p.tables e below (T14.setTop (mkF m 82 #[.val (.int p0), .val (.int p1), .val (.int p2), .val (.int lo), .val (.int hi), .val (.int mid), .val (.int (own_z (own_Pm lo))), .val (.int (own_z (own_Pm mid))), .val (.int (own_z (own_Pm hi))), .val (.int (1 : Int32)), .unset] [])) t
        refine X14.ldcInt hx hown (mvT hZ (hw _ (List.mem_of_getElem? (i := 12) rfl))) (g := (mkF m 82 #[.val (.int p0), .val (.int p1), .val (.int p2), .val (.int lo), .val (.int hi), .val (.int mid), .val (.int (own_z (own_Pm lo))), .val (.int (own_z (own_Pm mid))), .val (.int (own_z (own_Pm hi))), .val (.int (1 : Int32)), .unset] [])) rfl (hb hby at_82) _ ?_
        show Steps p.tables e below (T14.setTop (mkF m 84 #[.val (.int p0), .val (.int p1), .val (.int p2), .val (.int lo), .val (.int hi), .val (.int mid), .val (.int (own_z (own_Pm lo))), .val (.int (own_z (own_Pm mid))), .val (.int (own_z (own_Pm hi))), .val (.int (1 : Int32)), .unset] [(.int (65536 : Int32))])) t
        exact kt
      refine own_callSp X14 hx hZ hown e14 (hw _ (List.mem_of_getElem? (i := 7) rfl)) (hw _ (List.mem_of_getElem? (i := 8) rfl)) (hw _ (List.mem_of_getElem? (i := 9) rfl)) (hw _ (List.mem_of_getElem? (i := 10) rfl)) (by decide) (rm3 l Z aw hw (65536 : Int32) h0 n0 Z0) (g := (mkF m 84 #[.val (.int p0), .val (.int p1), .val (.int p2), .val (.int lo), .val (.int hi), .val (.int mid), .val (.int (own_z (own_Pm lo))), .val (.int (own_z (own_Pm mid))), .val (.int (own_z (own_Pm hi))), .val (.int (1 : Int32)), .unset] [(.int (65536 : Int32))])) rfl (by rw [hml]; rfl) (argsL := [(.int (65536 : Int32))]) (rest := []) (lenOf pd_1 rfl) rfl rfl (W := 0) (by show 2 * 0 + _ ≤ _; exact Nat.le_of_eq rfl) (hb hby at_84) (by decide) (by decide) (by decide) (by decide) ?_
      intro T15 X15 e15
      refine own_go (T' := T15) (f' := (mkF m 91 #[.val (.int p0), .val (.int p1), .val (.int p2), .val (.int lo), .val (.int hi), .val (.int mid), .val (.int (own_z (own_Pm lo))), .val (.int (own_z (own_Pm mid))), .val (.int (own_z (own_Pm hi))), .val (.int (1 : Int32)), .unset] [(.int (0 : Int32))])) (fun t kt => ?_) ?_
      · show Steps p.tables e below (T15.setTop (mkF m 87 #[.val (.int p0), .val (.int p1), .val (.int p2), .val (.int lo), .val (.int hi), .val (.int mid), .val (.int (own_z (own_Pm lo))), .val (.int (own_z (own_Pm mid))), .val (.int (own_z (own_Pm hi))), .val (.int (1 : Int32)), .unset] [(.int (own_z (own_Pm (65536 : Int32))))])) t
        refine XS.ifNo X15.here hx rfl (hb hby at_87) rfl (own_zN_eq (show (own_Pm (65536 : Int32)) from by decide)) ?_
        show Steps p.tables e below (T15.setTop (mkF m 90 #[.val (.int p0), .val (.int p1), .val (.int p2), .val (.int lo), .val (.int hi), .val (.int mid), .val (.int (own_z (own_Pm lo))), .val (.int (own_z (own_Pm mid))), .val (.int (own_z (own_Pm hi))), .val (.int (1 : Int32)), .unset] [])) t
        refine XS.iconst X15.here hx rfl (hb hby at_90) ?_
        show Steps p.tables e below (T15.setTop (mkF m 91 #[.val (.int p0), .val (.int p1), .val (.int p2), .val (.int lo), .val (.int hi), .val (.int mid), .val (.int (own_z (own_Pm lo))), .val (.int (own_z (own_Pm mid))), .val (.int (own_z (own_Pm hi))), .val (.int (1 : Int32)), .unset] [(.int (0 : Int32))])) t
        exact kt
      refine own_callSp X15 hx hZ hown e15 (hw _ (List.mem_of_getElem? (i := 7) rfl)) (hw _ (List.mem_of_getElem? (i := 8) rfl)) (hw _ (List.mem_of_getElem? (i := 9) rfl)) (hw _ (List.mem_of_getElem? (i := 10) rfl)) (by decide) (rm3 l Z aw hw (0 : Int32) h0 n0 Z0) (g := (mkF m 91 #[.val (.int p0), .val (.int p1), .val (.int p2), .val (.int lo), .val (.int hi), .val (.int mid), .val (.int (own_z (own_Pm lo))), .val (.int (own_z (own_Pm mid))), .val (.int (own_z (own_Pm hi))), .val (.int (1 : Int32)), .unset] [(.int (0 : Int32))])) rfl (by rw [hml]; rfl) (argsL := [(.int (0 : Int32))]) (rest := []) (lenOf pd_1 rfl) rfl rfl (W := 0) (by show 2 * 0 + _ ≤ _; exact Nat.le_of_eq rfl) (hb hby at_91) (by decide) (by decide) (by decide) (by decide) ?_
      intro T16 X16 e16
      refine own_go (T' := T16) (f' := (mkF m 99 #[.val (.int p0), .val (.int p1), .val (.int p2), .val (.int lo), .val (.int hi), .val (.int mid), .val (.int (own_z (own_Pm lo))), .val (.int (own_z (own_Pm mid))), .val (.int (own_z (own_Pm hi))), .val (.int (1 : Int32)), .unset] [(.int (65537 : Int32))])) (fun t kt => ?_) ?_
      · show Steps p.tables e below (T16.setTop (mkF m 94 #[.val (.int p0), .val (.int p1), .val (.int p2), .val (.int lo), .val (.int hi), .val (.int mid), .val (.int (own_z (own_Pm lo))), .val (.int (own_z (own_Pm mid))), .val (.int (own_z (own_Pm hi))), .val (.int (1 : Int32)), .unset] [(.int (own_z (own_Pm (0 : Int32))))])) t
        refine XS.ifNo X16.here hx rfl (hb hby at_94) rfl (own_zN_ne (show ¬ ((own_Pm (0 : Int32))) from by decide)) ?_
        show Steps p.tables e below (T16.setTop (mkF m 97 #[.val (.int p0), .val (.int p1), .val (.int p2), .val (.int lo), .val (.int hi), .val (.int mid), .val (.int (own_z (own_Pm lo))), .val (.int (own_z (own_Pm mid))), .val (.int (own_z (own_Pm hi))), .val (.int (1 : Int32)), .unset] [])) t
        refine X16.ldcInt hx hown (mvT hZ (hw _ (List.mem_of_getElem? (i := 13) rfl))) (g := (mkF m 97 #[.val (.int p0), .val (.int p1), .val (.int p2), .val (.int lo), .val (.int hi), .val (.int mid), .val (.int (own_z (own_Pm lo))), .val (.int (own_z (own_Pm mid))), .val (.int (own_z (own_Pm hi))), .val (.int (1 : Int32)), .unset] [])) rfl (hb hby at_97) _ ?_
        show Steps p.tables e below (T16.setTop (mkF m 99 #[.val (.int p0), .val (.int p1), .val (.int p2), .val (.int lo), .val (.int hi), .val (.int mid), .val (.int (own_z (own_Pm lo))), .val (.int (own_z (own_Pm mid))), .val (.int (own_z (own_Pm hi))), .val (.int (1 : Int32)), .unset] [(.int (65537 : Int32))])) t
        exact kt
      refine own_callSp X16 hx hZ hown e16 (hw _ (List.mem_of_getElem? (i := 7) rfl)) (hw _ (List.mem_of_getElem? (i := 8) rfl)) (hw _ (List.mem_of_getElem? (i := 9) rfl)) (hw _ (List.mem_of_getElem? (i := 10) rfl)) (by decide) (rm3 l Z aw hw (65537 : Int32) h0 n0 Z0) (g := (mkF m 99 #[.val (.int p0), .val (.int p1), .val (.int p2), .val (.int lo), .val (.int hi), .val (.int mid), .val (.int (own_z (own_Pm lo))), .val (.int (own_z (own_Pm mid))), .val (.int (own_z (own_Pm hi))), .val (.int (1 : Int32)), .unset] [(.int (65537 : Int32))])) rfl (by rw [hml]; rfl) (argsL := [(.int (65537 : Int32))]) (rest := []) (lenOf pd_1 rfl) rfl rfl (W := 0) (by show 2 * 0 + _ ≤ _; exact Nat.le_of_eq rfl) (hb hby at_99) (by decide) (by decide) (by decide) (by decide) ?_
      intro T17 X17 e17
      refine own_go (T' := T17) (f' := (mkF m 127 #[.val (.int p0), .val (.int p1), .val (.int p2), .val (.int lo), .val (.int hi), .val (.int mid), .val (.int (own_z (own_Pm lo))), .val (.int (own_z (own_Pm mid))), .val (.int (own_z (own_Pm hi))), .val (.int (1 : Int32)), .val (.int (1 : Int32))] [(.int (1 : Int32))])) (fun t kt => ?_) ?_
      · show Steps p.tables e below (T17.setTop (mkF m 102 #[.val (.int p0), .val (.int p1), .val (.int p2), .val (.int lo), .val (.int hi), .val (.int mid), .val (.int (own_z (own_Pm lo))), .val (.int (own_z (own_Pm mid))), .val (.int (own_z (own_Pm hi))), .val (.int (1 : Int32)), .unset] [(.int (own_z (own_Pm (65537 : Int32))))])) t
        refine XS.ifNo X17.here hx rfl (hb hby at_102) rfl (own_zN_ne (show ¬ ((own_Pm (65537 : Int32))) from by decide)) ?_
        show Steps p.tables e below (T17.setTop (mkF m 105 #[.val (.int p0), .val (.int p1), .val (.int p2), .val (.int lo), .val (.int hi), .val (.int mid), .val (.int (own_z (own_Pm lo))), .val (.int (own_z (own_Pm mid))), .val (.int (own_z (own_Pm hi))), .val (.int (1 : Int32)), .unset] [])) t
        refine XS.iconst X17.here hx rfl (hb hby at_105) ?_
        show Steps p.tables e below (T17.setTop (mkF m 106 #[.val (.int p0), .val (.int p1), .val (.int p2), .val (.int lo), .val (.int hi), .val (.int mid), .val (.int (own_z (own_Pm lo))), .val (.int (own_z (own_Pm mid))), .val (.int (own_z (own_Pm hi))), .val (.int (1 : Int32)), .unset] [(.int (1 : Int32))])) t
        refine XS.goto X17.here hx rfl (pc0 := 106) (pc' := 110) rfl (hb hby at_106) (by decide) (by decide) ?_
        show Steps p.tables e below (T17.setTop (mkF m 110 #[.val (.int p0), .val (.int p1), .val (.int p2), .val (.int lo), .val (.int hi), .val (.int mid), .val (.int (own_z (own_Pm lo))), .val (.int (own_z (own_Pm mid))), .val (.int (own_z (own_Pm hi))), .val (.int (1 : Int32)), .unset] [(.int (1 : Int32))])) t
        refine XS.istore X17.here hx rfl (hb hby at_110) rfl (l' := #[.val (.int p0), .val (.int p1), .val (.int p2), .val (.int lo), .val (.int hi), .val (.int mid), .val (.int (own_z (own_Pm lo))), .val (.int (own_z (own_Pm mid))), .val (.int (own_z (own_Pm hi))), .val (.int (1 : Int32)), .val (.int (1 : Int32))]) rfl ?_
        show Steps p.tables e below (T17.setTop (mkF m 112 #[.val (.int p0), .val (.int p1), .val (.int p2), .val (.int lo), .val (.int hi), .val (.int mid), .val (.int (own_z (own_Pm lo))), .val (.int (own_z (own_Pm mid))), .val (.int (own_z (own_Pm hi))), .val (.int (1 : Int32)), .val (.int (1 : Int32))] [])) t
        refine XS.iload X17.here hx rfl (hb hby at_112) rfl ?_
        show Steps p.tables e below (T17.setTop (mkF m 114 #[.val (.int p0), .val (.int p1), .val (.int p2), .val (.int lo), .val (.int hi), .val (.int mid), .val (.int (own_z (own_Pm lo))), .val (.int (own_z (own_Pm mid))), .val (.int (own_z (own_Pm hi))), .val (.int (1 : Int32)), .val (.int (1 : Int32))] [(.int (1 : Int32))])) t
        refine XS.ifNo X17.here hx rfl (hb hby at_114) rfl (by decide) ?_
        show Steps p.tables e below (T17.setTop (mkF m 117 #[.val (.int p0), .val (.int p1), .val (.int p2), .val (.int lo), .val (.int hi), .val (.int mid), .val (.int (own_z (own_Pm lo))), .val (.int (own_z (own_Pm mid))), .val (.int (own_z (own_Pm hi))), .val (.int (1 : Int32)), .val (.int (1 : Int32))] [])) t
        refine XS.iload X17.here hx rfl (hb hby at_117) rfl ?_
        show Steps p.tables e below (T17.setTop (mkF m 119 #[.val (.int p0), .val (.int p1), .val (.int p2), .val (.int lo), .val (.int hi), .val (.int mid), .val (.int (own_z (own_Pm lo))), .val (.int (own_z (own_Pm mid))), .val (.int (own_z (own_Pm hi))), .val (.int (1 : Int32)), .val (.int (1 : Int32))] [(.int (1 : Int32))])) t
        refine XS.ifNo X17.here hx rfl (hb hby at_119) rfl (by decide) ?_
        show Steps p.tables e below (T17.setTop (mkF m 122 #[.val (.int p0), .val (.int p1), .val (.int p2), .val (.int lo), .val (.int hi), .val (.int mid), .val (.int (own_z (own_Pm lo))), .val (.int (own_z (own_Pm mid))), .val (.int (own_z (own_Pm hi))), .val (.int (1 : Int32)), .val (.int (1 : Int32))] [])) t
        refine XS.iconst X17.here hx rfl (hb hby at_122) ?_
        show Steps p.tables e below (T17.setTop (mkF m 123 #[.val (.int p0), .val (.int p1), .val (.int p2), .val (.int lo), .val (.int hi), .val (.int mid), .val (.int (own_z (own_Pm lo))), .val (.int (own_z (own_Pm mid))), .val (.int (own_z (own_Pm hi))), .val (.int (1 : Int32)), .val (.int (1 : Int32))] [(.int (1 : Int32))])) t
        refine XS.goto X17.here hx rfl (pc0 := 123) (pc' := 127) rfl (hb hby at_123) (by decide) (by decide) ?_
        show Steps p.tables e below (T17.setTop (mkF m 127 #[.val (.int p0), .val (.int p1), .val (.int p2), .val (.int lo), .val (.int hi), .val (.int mid), .val (.int (own_z (own_Pm lo))), .val (.int (own_z (own_Pm mid))), .val (.int (own_z (own_Pm hi))), .val (.int (1 : Int32)), .val (.int (1 : Int32))] [(.int (1 : Int32))])) t
        exact kt
      exact own_retN X17 hP hx hlk e17 (t := .boolean) hret (by simp) (hb hby at_127) (by decide) (by decide) (z' := (1 : Int32)) rfl ⟨rfl, N0⟩
  · refine own_go (T' := T7) (f' := (mkF m 76 #[.val (.int p0), .val (.int p1), .val (.int p2), .val (.int lo), .val (.int hi), .val (.int mid), .val (.int (own_z (own_Pm lo))), .val (.int (own_z (own_Pm mid))), .val (.int (own_z (own_Pm hi))), .val (.int (1 : Int32)), .unset] [(.int (1 : Int32))])) (fun t kt => ?_) ?_
    · show Steps p.tables e below (T7.setTop (mkF m 55 #[.val (.int p0), .val (.int p1), .val (.int p2), .val (.int lo), .val (.int hi), .val (.int mid), .val (.int (own_z (own_Pm lo))), .val (.int (own_z (own_Pm mid))), .val (.int (own_z (own_Pm hi))), .unset, .unset] [(.int (own_z (own_Pm lo)))])) t
      refine XS.ifYes X7.here hx rfl (pc0 := 55) (pc' := 68) rfl (hb hby at_55) rfl (own_zY_eq hc55_8) (by decide) (by decide) ?_
      show Steps p.tables e below (T7.setTop (mkF m 68 #[.val (.int p0), .val (.int p1), .val (.int p2), .val (.int lo), .val (.int hi), .val (.int mid), .val (.int (own_z (own_Pm lo))), .val (.int (own_z (own_Pm mid))), .val (.int (own_z (own_Pm hi))), .unset, .unset] [])) t
      refine XS.iconst X7.here hx rfl (hb hby at_68) ?_
      show Steps p.tables e below (T7.setTop (mkF m 69 #[.val (.int p0), .val (.int p1), .val (.int p2), .val (.int lo), .val (.int hi), .val (.int mid), .val (.int (own_z (own_Pm lo))), .val (.int (own_z (own_Pm mid))), .val (.int (own_z (own_Pm hi))), .unset, .unset] [(.int (1 : Int32))])) t
      refine XS.goto X7.here hx rfl (pc0 := 69) (pc' := 73) rfl (hb hby at_69) (by decide) (by decide) ?_
      show Steps p.tables e below (T7.setTop (mkF m 73 #[.val (.int p0), .val (.int p1), .val (.int p2), .val (.int lo), .val (.int hi), .val (.int mid), .val (.int (own_z (own_Pm lo))), .val (.int (own_z (own_Pm mid))), .val (.int (own_z (own_Pm hi))), .unset, .unset] [(.int (1 : Int32))])) t
      refine XS.istore X7.here hx rfl (hb hby at_73) rfl (l' := #[.val (.int p0), .val (.int p1), .val (.int p2), .val (.int lo), .val (.int hi), .val (.int mid), .val (.int (own_z (own_Pm lo))), .val (.int (own_z (own_Pm mid))), .val (.int (own_z (own_Pm hi))), .val (.int (1 : Int32)), .unset]) rfl ?_
      show Steps p.tables e below (T7.setTop (mkF m 75 #[.val (.int p0), .val (.int p1), .val (.int p2), .val (.int lo), .val (.int hi), .val (.int mid), .val (.int (own_z (own_Pm lo))), .val (.int (own_z (own_Pm mid))), .val (.int (own_z (own_Pm hi))), .val (.int (1 : Int32)), .unset] [])) t
      refine XS.iconst X7.here hx rfl (hb hby at_75) ?_
      show Steps p.tables e below (T7.setTop (mkF m 76 #[.val (.int p0), .val (.int p1), .val (.int p2), .val (.int lo), .val (.int hi), .val (.int mid), .val (.int (own_z (own_Pm lo))), .val (.int (own_z (own_Pm mid))), .val (.int (own_z (own_Pm hi))), .val (.int (1 : Int32)), .unset] [(.int (1 : Int32))])) t
      exact kt
    refine own_callSp X7 hx hZ hown e7 (hw _ (List.mem_of_getElem? (i := 7) rfl)) (hw _ (List.mem_of_getElem? (i := 8) rfl)) (hw _ (List.mem_of_getElem? (i := 9) rfl)) (hw _ (List.mem_of_getElem? (i := 10) rfl)) (by decide) (rm3 l Z aw hw (1 : Int32) h0 n0 Z0) (g := (mkF m 76 #[.val (.int p0), .val (.int p1), .val (.int p2), .val (.int lo), .val (.int hi), .val (.int mid), .val (.int (own_z (own_Pm lo))), .val (.int (own_z (own_Pm mid))), .val (.int (own_z (own_Pm hi))), .val (.int (1 : Int32)), .unset] [(.int (1 : Int32))])) rfl (by rw [hml]; rfl) (argsL := [(.int (1 : Int32))]) (rest := []) (lenOf pd_1 rfl) rfl rfl (W := 0) (by show 2 * 0 + _ ≤ _; exact Nat.le_of_eq rfl) (hb hby at_76) (by decide) (by decide) (by decide) (by decide) ?_
    intro T18 X18 e18
    refine own_go (T' := T18) (f' := (mkF m 84 #[.val (.int p0), .val (.int p1), .val (.int p2), .val (.int lo), .val (.int hi), .val (.int mid), .val (.int (own_z (own_Pm lo))), .val (.int (own_z (own_Pm mid))), .val (.int (own_z (own_Pm hi))), .val (.int (1 : Int32)), .unset] [(.int (65536 : Int32))])) (fun t kt => ?_) ?_
    · show Steps p.tables e below (T18.setTop (mkF m 79 #[.val (.int p0), .val (.int p1), .val (.int p2), .val (.int lo), .val (.int hi), .val (.int mid), .val (.int (own_z (own_Pm lo))), .val (.int (own_z (own_Pm mid))), .val (.int (own_z (own_Pm hi))), .val (.int (1 : Int32)), .unset] [(.int (own_z (own_Pm (1 : Int32))))])) t
      refine XS.ifNo X18.here hx rfl (hb hby at_79) rfl (own_zN_eq (show (own_Pm (1 : Int32)) from by decide)) ?_
      show Steps p.tables e below (T18.setTop (mkF m 82 #[.val (.int p0), .val (.int p1), .val (.int p2), .val (.int lo), .val (.int hi), .val (.int mid), .val (.int (own_z (own_Pm lo))), .val (.int (own_z (own_Pm mid))), .val (.int (own_z (own_Pm hi))), .val (.int (1 : Int32)), .unset] [])) t
      refine X18.ldcInt hx hown (mvT hZ (hw _ (List.mem_of_getElem? (i := 12) rfl))) (g := (mkF m 82 #[.val (.int p0), .val (.int p1), .val (.int p2), .val (.int lo), .val (.int hi), .val (.int mid), .val (.int (own_z (own_Pm lo))), .val (.int (own_z (own_Pm mid))), .val (.int (own_z (own_Pm hi))), .val (.int (1 : Int32)), .unset] [])) rfl (hb hby at_82) _ ?_
      show Steps p.tables e below (T18.setTop (mkF m 84 #[.val (.int p0), .val (.int p1), .val (.int p2), .val (.int lo), .val (.int hi), .val (.int mid), .val (.int (own_z (own_Pm lo))), .val (.int (own_z (own_Pm mid))), .val (.int (own_z (own_Pm hi))), .val (.int (1 : Int32)), .unset] [(.int (65536 : Int32))])) t
      exact kt
    refine own_callSp X18 hx hZ hown e18 (hw _ (List.mem_of_getElem? (i := 7) rfl)) (hw _ (List.mem_of_getElem? (i := 8) rfl)) (hw _ (List.mem_of_getElem? (i := 9) rfl)) (hw _ (List.mem_of_getElem? (i := 10) rfl)) (by decide) (rm3 l Z aw hw (65536 : Int32) h0 n0 Z0) (g := (mkF m 84 #[.val (.int p0), .val (.int p1), .val (.int p2), .val (.int lo), .val (.int hi), .val (.int mid), .val (.int (own_z (own_Pm lo))), .val (.int (own_z (own_Pm mid))), .val (.int (own_z (own_Pm hi))), .val (.int (1 : Int32)), .unset] [(.int (65536 : Int32))])) rfl (by rw [hml]; rfl) (argsL := [(.int (65536 : Int32))]) (rest := []) (lenOf pd_1 rfl) rfl rfl (W := 0) (by show 2 * 0 + _ ≤ _; exact Nat.le_of_eq rfl) (hb hby at_84) (by decide) (by decide) (by decide) (by decide) ?_
    intro T19 X19 e19
    refine own_go (T' := T19) (f' := (mkF m 91 #[.val (.int p0), .val (.int p1), .val (.int p2), .val (.int lo), .val (.int hi), .val (.int mid), .val (.int (own_z (own_Pm lo))), .val (.int (own_z (own_Pm mid))), .val (.int (own_z (own_Pm hi))), .val (.int (1 : Int32)), .unset] [(.int (0 : Int32))])) (fun t kt => ?_) ?_
    · show Steps p.tables e below (T19.setTop (mkF m 87 #[.val (.int p0), .val (.int p1), .val (.int p2), .val (.int lo), .val (.int hi), .val (.int mid), .val (.int (own_z (own_Pm lo))), .val (.int (own_z (own_Pm mid))), .val (.int (own_z (own_Pm hi))), .val (.int (1 : Int32)), .unset] [(.int (own_z (own_Pm (65536 : Int32))))])) t
      refine XS.ifNo X19.here hx rfl (hb hby at_87) rfl (own_zN_eq (show (own_Pm (65536 : Int32)) from by decide)) ?_
      show Steps p.tables e below (T19.setTop (mkF m 90 #[.val (.int p0), .val (.int p1), .val (.int p2), .val (.int lo), .val (.int hi), .val (.int mid), .val (.int (own_z (own_Pm lo))), .val (.int (own_z (own_Pm mid))), .val (.int (own_z (own_Pm hi))), .val (.int (1 : Int32)), .unset] [])) t
      refine XS.iconst X19.here hx rfl (hb hby at_90) ?_
      show Steps p.tables e below (T19.setTop (mkF m 91 #[.val (.int p0), .val (.int p1), .val (.int p2), .val (.int lo), .val (.int hi), .val (.int mid), .val (.int (own_z (own_Pm lo))), .val (.int (own_z (own_Pm mid))), .val (.int (own_z (own_Pm hi))), .val (.int (1 : Int32)), .unset] [(.int (0 : Int32))])) t
      exact kt
    refine own_callSp X19 hx hZ hown e19 (hw _ (List.mem_of_getElem? (i := 7) rfl)) (hw _ (List.mem_of_getElem? (i := 8) rfl)) (hw _ (List.mem_of_getElem? (i := 9) rfl)) (hw _ (List.mem_of_getElem? (i := 10) rfl)) (by decide) (rm3 l Z aw hw (0 : Int32) h0 n0 Z0) (g := (mkF m 91 #[.val (.int p0), .val (.int p1), .val (.int p2), .val (.int lo), .val (.int hi), .val (.int mid), .val (.int (own_z (own_Pm lo))), .val (.int (own_z (own_Pm mid))), .val (.int (own_z (own_Pm hi))), .val (.int (1 : Int32)), .unset] [(.int (0 : Int32))])) rfl (by rw [hml]; rfl) (argsL := [(.int (0 : Int32))]) (rest := []) (lenOf pd_1 rfl) rfl rfl (W := 0) (by show 2 * 0 + _ ≤ _; exact Nat.le_of_eq rfl) (hb hby at_91) (by decide) (by decide) (by decide) (by decide) ?_
    intro T20 X20 e20
    refine own_go (T' := T20) (f' := (mkF m 99 #[.val (.int p0), .val (.int p1), .val (.int p2), .val (.int lo), .val (.int hi), .val (.int mid), .val (.int (own_z (own_Pm lo))), .val (.int (own_z (own_Pm mid))), .val (.int (own_z (own_Pm hi))), .val (.int (1 : Int32)), .unset] [(.int (65537 : Int32))])) (fun t kt => ?_) ?_
    · show Steps p.tables e below (T20.setTop (mkF m 94 #[.val (.int p0), .val (.int p1), .val (.int p2), .val (.int lo), .val (.int hi), .val (.int mid), .val (.int (own_z (own_Pm lo))), .val (.int (own_z (own_Pm mid))), .val (.int (own_z (own_Pm hi))), .val (.int (1 : Int32)), .unset] [(.int (own_z (own_Pm (0 : Int32))))])) t
      refine XS.ifNo X20.here hx rfl (hb hby at_94) rfl (own_zN_ne (show ¬ ((own_Pm (0 : Int32))) from by decide)) ?_
      show Steps p.tables e below (T20.setTop (mkF m 97 #[.val (.int p0), .val (.int p1), .val (.int p2), .val (.int lo), .val (.int hi), .val (.int mid), .val (.int (own_z (own_Pm lo))), .val (.int (own_z (own_Pm mid))), .val (.int (own_z (own_Pm hi))), .val (.int (1 : Int32)), .unset] [])) t
      refine X20.ldcInt hx hown (mvT hZ (hw _ (List.mem_of_getElem? (i := 13) rfl))) (g := (mkF m 97 #[.val (.int p0), .val (.int p1), .val (.int p2), .val (.int lo), .val (.int hi), .val (.int mid), .val (.int (own_z (own_Pm lo))), .val (.int (own_z (own_Pm mid))), .val (.int (own_z (own_Pm hi))), .val (.int (1 : Int32)), .unset] [])) rfl (hb hby at_97) _ ?_
      show Steps p.tables e below (T20.setTop (mkF m 99 #[.val (.int p0), .val (.int p1), .val (.int p2), .val (.int lo), .val (.int hi), .val (.int mid), .val (.int (own_z (own_Pm lo))), .val (.int (own_z (own_Pm mid))), .val (.int (own_z (own_Pm hi))), .val (.int (1 : Int32)), .unset] [(.int (65537 : Int32))])) t
      exact kt
    refine own_callSp X20 hx hZ hown e20 (hw _ (List.mem_of_getElem? (i := 7) rfl)) (hw _ (List.mem_of_getElem? (i := 8) rfl)) (hw _ (List.mem_of_getElem? (i := 9) rfl)) (hw _ (List.mem_of_getElem? (i := 10) rfl)) (by decide) (rm3 l Z aw hw (65537 : Int32) h0 n0 Z0) (g := (mkF m 99 #[.val (.int p0), .val (.int p1), .val (.int p2), .val (.int lo), .val (.int hi), .val (.int mid), .val (.int (own_z (own_Pm lo))), .val (.int (own_z (own_Pm mid))), .val (.int (own_z (own_Pm hi))), .val (.int (1 : Int32)), .unset] [(.int (65537 : Int32))])) rfl (by rw [hml]; rfl) (argsL := [(.int (65537 : Int32))]) (rest := []) (lenOf pd_1 rfl) rfl rfl (W := 0) (by show 2 * 0 + _ ≤ _; exact Nat.le_of_eq rfl) (hb hby at_99) (by decide) (by decide) (by decide) (by decide) ?_
    intro T21 X21 e21
    refine own_go (T' := T21) (f' := (mkF m 127 #[.val (.int p0), .val (.int p1), .val (.int p2), .val (.int lo), .val (.int hi), .val (.int mid), .val (.int (own_z (own_Pm lo))), .val (.int (own_z (own_Pm mid))), .val (.int (own_z (own_Pm hi))), .val (.int (1 : Int32)), .val (.int (1 : Int32))] [(.int (1 : Int32))])) (fun t kt => ?_) ?_
    · show Steps p.tables e below (T21.setTop (mkF m 102 #[.val (.int p0), .val (.int p1), .val (.int p2), .val (.int lo), .val (.int hi), .val (.int mid), .val (.int (own_z (own_Pm lo))), .val (.int (own_z (own_Pm mid))), .val (.int (own_z (own_Pm hi))), .val (.int (1 : Int32)), .unset] [(.int (own_z (own_Pm (65537 : Int32))))])) t
      refine XS.ifNo X21.here hx rfl (hb hby at_102) rfl (own_zN_ne (show ¬ ((own_Pm (65537 : Int32))) from by decide)) ?_
      show Steps p.tables e below (T21.setTop (mkF m 105 #[.val (.int p0), .val (.int p1), .val (.int p2), .val (.int lo), .val (.int hi), .val (.int mid), .val (.int (own_z (own_Pm lo))), .val (.int (own_z (own_Pm mid))), .val (.int (own_z (own_Pm hi))), .val (.int (1 : Int32)), .unset] [])) t
      refine XS.iconst X21.here hx rfl (hb hby at_105) ?_
      show Steps p.tables e below (T21.setTop (mkF m 106 #[.val (.int p0), .val (.int p1), .val (.int p2), .val (.int lo), .val (.int hi), .val (.int mid), .val (.int (own_z (own_Pm lo))), .val (.int (own_z (own_Pm mid))), .val (.int (own_z (own_Pm hi))), .val (.int (1 : Int32)), .unset] [(.int (1 : Int32))])) t
      refine XS.goto X21.here hx rfl (pc0 := 106) (pc' := 110) rfl (hb hby at_106) (by decide) (by decide) ?_
      show Steps p.tables e below (T21.setTop (mkF m 110 #[.val (.int p0), .val (.int p1), .val (.int p2), .val (.int lo), .val (.int hi), .val (.int mid), .val (.int (own_z (own_Pm lo))), .val (.int (own_z (own_Pm mid))), .val (.int (own_z (own_Pm hi))), .val (.int (1 : Int32)), .unset] [(.int (1 : Int32))])) t
      refine XS.istore X21.here hx rfl (hb hby at_110) rfl (l' := #[.val (.int p0), .val (.int p1), .val (.int p2), .val (.int lo), .val (.int hi), .val (.int mid), .val (.int (own_z (own_Pm lo))), .val (.int (own_z (own_Pm mid))), .val (.int (own_z (own_Pm hi))), .val (.int (1 : Int32)), .val (.int (1 : Int32))]) rfl ?_
      show Steps p.tables e below (T21.setTop (mkF m 112 #[.val (.int p0), .val (.int p1), .val (.int p2), .val (.int lo), .val (.int hi), .val (.int mid), .val (.int (own_z (own_Pm lo))), .val (.int (own_z (own_Pm mid))), .val (.int (own_z (own_Pm hi))), .val (.int (1 : Int32)), .val (.int (1 : Int32))] [])) t
      refine XS.iload X21.here hx rfl (hb hby at_112) rfl ?_
      show Steps p.tables e below (T21.setTop (mkF m 114 #[.val (.int p0), .val (.int p1), .val (.int p2), .val (.int lo), .val (.int hi), .val (.int mid), .val (.int (own_z (own_Pm lo))), .val (.int (own_z (own_Pm mid))), .val (.int (own_z (own_Pm hi))), .val (.int (1 : Int32)), .val (.int (1 : Int32))] [(.int (1 : Int32))])) t
      refine XS.ifNo X21.here hx rfl (hb hby at_114) rfl (by decide) ?_
      show Steps p.tables e below (T21.setTop (mkF m 117 #[.val (.int p0), .val (.int p1), .val (.int p2), .val (.int lo), .val (.int hi), .val (.int mid), .val (.int (own_z (own_Pm lo))), .val (.int (own_z (own_Pm mid))), .val (.int (own_z (own_Pm hi))), .val (.int (1 : Int32)), .val (.int (1 : Int32))] [])) t
      refine XS.iload X21.here hx rfl (hb hby at_117) rfl ?_
      show Steps p.tables e below (T21.setTop (mkF m 119 #[.val (.int p0), .val (.int p1), .val (.int p2), .val (.int lo), .val (.int hi), .val (.int mid), .val (.int (own_z (own_Pm lo))), .val (.int (own_z (own_Pm mid))), .val (.int (own_z (own_Pm hi))), .val (.int (1 : Int32)), .val (.int (1 : Int32))] [(.int (1 : Int32))])) t
      refine XS.ifNo X21.here hx rfl (hb hby at_119) rfl (by decide) ?_
      show Steps p.tables e below (T21.setTop (mkF m 122 #[.val (.int p0), .val (.int p1), .val (.int p2), .val (.int lo), .val (.int hi), .val (.int mid), .val (.int (own_z (own_Pm lo))), .val (.int (own_z (own_Pm mid))), .val (.int (own_z (own_Pm hi))), .val (.int (1 : Int32)), .val (.int (1 : Int32))] [])) t
      refine XS.iconst X21.here hx rfl (hb hby at_122) ?_
      show Steps p.tables e below (T21.setTop (mkF m 123 #[.val (.int p0), .val (.int p1), .val (.int p2), .val (.int lo), .val (.int hi), .val (.int mid), .val (.int (own_z (own_Pm lo))), .val (.int (own_z (own_Pm mid))), .val (.int (own_z (own_Pm hi))), .val (.int (1 : Int32)), .val (.int (1 : Int32))] [(.int (1 : Int32))])) t
      refine XS.goto X21.here hx rfl (pc0 := 123) (pc' := 127) rfl (hb hby at_123) (by decide) (by decide) ?_
      show Steps p.tables e below (T21.setTop (mkF m 127 #[.val (.int p0), .val (.int p1), .val (.int p2), .val (.int lo), .val (.int hi), .val (.int mid), .val (.int (own_z (own_Pm lo))), .val (.int (own_z (own_Pm mid))), .val (.int (own_z (own_Pm hi))), .val (.int (1 : Int32)), .val (.int (1 : Int32))] [(.int (1 : Int32))])) t
      exact kt
    exact own_retN X21 hP hx hlk e21 (t := .boolean) hret (by simp) (hb hby at_127) (by decide) (by decide) (z' := (1 : Int32)) rfl ⟨rfl, N0⟩
set_option maxRecDepth 65536 in
set_option maxHeartbeats 40000000 in
theorem comes_1 {Post : Tables → Env → Array Value → State → Outcome → State → Prop} (hpost : ∀ tb e args s v u, (limb_1_1.after args s (.returned v) u = true ∧ limb_1_2.after args s (.returned v) u = true ∧ True) → FrameEnd s (.returned v) u (Jvm.fieldLocs frame_1_writes args s ++ Jvm.arrayLocs frame_1_arrays args s ++ Jvm.staticLocs frame_1_statics s) 0 0 → Post tb e args s (.returned v) u) :
    ArmFor flags0 classFile x code maxLocals ret World_1 tables_1 room_1 Calls_1 rest_1 Pre_1 Post := by
  intro l hfl _ _ p e ha hc hk s m args below hf hA hF happ hP
  obtain ⟨hcalls, hrest, hpre⟩ := hP
  obtain ⟨-, -, -, hnamed, -, -, -, hat⟩ := (Spec.applies_iff hf).mp happ
  obtain ⟨hg, hn⟩ := and_e (Cond.before_iff.mp (show (Jvm.Cond.and given_1 narrow_1).before args s = true from hpre))
  obtain ⟨k1, k2⟩ := and_e hg
  obtain ⟨k3, k4⟩ := and_e k2
  obtain ⟨k5, k6⟩ := and_e k4
  obtain ⟨w0, w1, w2, rfl⟩ : ∃ w0 w1 w2 : Value, args = #[w0, w1, w2] := by
    have hs : args.size = 3 := by simpa [Cond.value, given_1] using k1
    obtain ⟨L⟩ := args
    match L, hs with
    | [w0, w1, w2], _ => exact ⟨w0, w1, w2, rfl⟩
  have hw := fun d (hd : d ∈ tables_1) => atoms_spec (ws := Jvm.Cond.code x code maxLocals ret :: tables_1) hat d (List.mem_cons_of_mem _ hd)
  obtain ⟨i0, ei0⟩ := is_v k3
  obtain rfl : w0 = (.int i0) := Option.some.inj ei0
  obtain ⟨i1, ei1⟩ := is_v k5
  obtain rfl : w1 = (.int i1) := Option.some.inj ei1
  obtain ⟨i2, ei2⟩ := is_v k6
  obtain rfl : w2 = (.int i2) := Option.some.inj ei2
  obtain ⟨n, o, h1, h2, h3, _, L, rfl, ⟨rfl, N⟩, hq⟩ := rm0 l s _ hw (ws := tables_1) i0 i1 i2 s.heap s.heap.size (Nat.le_refl _)  p e ha hc hk s m _ below hf ((Spec.applies_iff_loose hf).mp happ).1 ⟨rfl, State.Warmed39.refl s, rfl⟩ trivial
  refine ⟨n, _, h1, h2, h3, hpost _ _ _ _ _ _ ⟨Cond.after_iff.mpr rfl, Cond.after_iff.mpr (eq_i res_at (Term.int_eval (1)) rfl), trivial⟩ ⟨hq.1, hq.2.1, (hq.2.2.sift fun y hy => Or.inr (N y hy)).mono (by decide) (by decide)⟩⟩
theorem main_1_1 : Claimed_1_1 := comes_1 fun _ _ _ _ _ _ h hF => ⟨h.1, hF⟩
theorem main_1_2 : Claimed_1_2 := comes_1 fun _ _ _ _ _ _ h hF => ⟨h.2.1, hF⟩
end Jvm.Pilot.@@N@@
namespace Jvm.Pilot.@@N@@
open Jvm Jvm.ClassFile Sem Op Lib Jvm.Free Jvm.Stand Jvm.Pilot.@@N@@.Jvm.D
/-! MADE BY PROGRAM (witnessworld.py) out of the Statement's table words and the real class files: 10 classes; the members and pool entries that the words name. The judged class is class 1, her method 1. -/
namespace start1
open Jvm.ClassFile
def u (s : String) : CpInfo := .utf8 (stringToUtf16 s)
/-- a pool by its gaps: so many unusable entries, then the entry; so many at the end -/
def gap : Nat → List CpInfo → List CpInfo
  | 0, r => r
  | n + 1, r => .unusable :: gap n r
def poolList (es : List (Nat × CpInfo)) (last : Nat) : List CpInfo := es.foldr (fun e r => gap e.1 (e.2 :: r)) (gap last [])
def pool (es : List (Nat × CpInfo)) (last : Nat) : Array CpInfo := ⟨poolList es last⟩
def fileOf (pool : Array CpInfo) (this : Nat) (attrs : Array Attribute := #[]) (ms : Array MethodInfo := #[]) (fl : Nat := 33) (sup : Nat := 0) (ifs : Array Nat := #[]) (fds : Array FieldInfo := #[]) : ClassFile where
  minorVersion := 0
  majorVersion := 65
  constantPool := pool
  accessFlags := fl
  thisClass := this
  superClass := sup
  interfaces := ifs
  fields := fds
  methods := ms
  attributes := attrs
def plain (name : String) (sup : Option ClassId) : Class where
  name := name
  kind := .ordinary
  loader := none
  accessFlags := 33
  super := sup
  interfaces := #[]
  cf := none
  fields := #[]
  methods := #[]
  instanceTypes := #[]
  staticTypes := #[]
  resolved := #[]
  callSites := []
  init := .initialized
  statics := none
  mirror := none

def pool0 : Array CpInfo := pool [(5, u "<init>"), (0, u "()V"), (1, .class_ 10), (1, u "java/lang/Object")] 113

def k0m0 : Method := { name := "<init>", desc := "()V", sig := { parameters := [], returnType := none }, accessFlags := 1, code := none }
/-- java/lang/Object -/
def k0 : Class := { plain "java/lang/Object" none with
  accessFlags := 33
  interfaces := #[]
  cf := some (fileOf pool0 8 #[] #[{ accessFlags := 1, nameIndex := 5, descriptorIndex := 6, attributes := #[] }] 33 0 #[] #[])
  fields := #[]
  methods := #[k0m0]
  instanceTypes := #[]
  staticTypes := #[]
  resolved := Array.replicate 124 none
  statics := none }

def pool1 : Array CpInfo := pool [(2, .class_ 4), (1, u "java/lang/Object"), (0, u "<init>"), (0, u "()V"), (0, .methodref 8 9), (0, .class_ 10), (0, .nameAndType 11 12), (0, u "java/lang/Math"), (0, u "min"), (0, u "(II)I"), (0, .methodref 8 14), (0, .nameAndType 15 12), (0, u "max"), (0, .methodref 17 18), (0, .class_ 19), (0, .nameAndType 20 21), (0, u "com/example/resemblr/resemblr/MinHash"), (0, u "isPerms"), (0, u "(I)Z"), (0, .integer 65536), (0, .integer 65537), (0, .class_ 25), (0, u "com/example/resemblr/resemblr/MinHashIsPermsPinLaw"), (2, u "law"), (0, u "(III)Z")] 3

def k1m0 : Method := { name := "<init>", desc := "()V", sig := { parameters := [], returnType := none }, accessFlags := 1, code := none }
def k1c1 : Code := { maxStack := 3, maxLocals := 11, code := code, exceptionTable := #[], attributes := #[] }
def k1m1 : Method := { name := "law", desc := "(III)Z", sig := { parameters := [.int, .int, .int], returnType := some .boolean }, accessFlags := 9, code := some k1c1 }
/-- com/example/resemblr/resemblr/MinHashIsPermsPinLaw -/
def k1 : Class := { plain "com/example/resemblr/resemblr/MinHashIsPermsPinLaw" (some 0) with
  accessFlags := 49
  interfaces := #[]
  cf := some (fileOf pool1 24 #[] #[{ accessFlags := 1, nameIndex := 5, descriptorIndex := 6, attributes := #[] }, { accessFlags := 9, nameIndex := 28, descriptorIndex := 29, attributes := #[] }] 49 2 #[] #[])
  fields := #[]
  methods := #[k1m0, k1m1]
  instanceTypes := #[]
  staticTypes := #[]
  resolved := Array.replicate 33 none
  statics := none }

def pool2 : Array CpInfo := pool [(1, .class_ 2), (0, u "java/lang/Math"), (1, .class_ 6), (1, u "java/lang/Object"), (0, u "<init>"), (0, u "()V"), (89, .class_ 100), (1, u "java/lang/Math$RandomNumberGeneratorHolder"), (71, u "negativeZeroFloatBits"), (0, u "J"), (2, u "negativeZeroDoubleBits"), (21, u "max"), (2, u "min"), (43, u "$assertionsDisabled"), (0, u "Z"), (88, u "(II)I"), (2, u "twoToTheDoubleScaleDown"), (0, u "D"), (4, u "twoToTheDoubleScaleUp"), (9, u "E"), (3, u "PI"), (2, u "TAU"), (2, u "DEGREES_TO_RADIANS"), (0, u "RADIANS_TO_DEGREES")] 94

def k2m0 : Method := { name := "<init>", desc := "()V", sig := { parameters := [], returnType := none }, accessFlags := 2, code := none }
def k2c1 : Code := { maxStack := 2, maxLocals := 2, code := jdk_29_method_65_code, exceptionTable := #[], attributes := #[] }
def k2m1 : Method := { name := "max", desc := "(II)I", sig := { parameters := [.int, .int], returnType := some .int }, accessFlags := 9, code := some k2c1 }
def k2c2 : Code := { maxStack := 2, maxLocals := 2, code := jdk_29_method_69_code, exceptionTable := #[], attributes := #[] }
def k2m2 : Method := { name := "min", desc := "(II)I", sig := { parameters := [.int, .int], returnType := some .int }, accessFlags := 9, code := some k2c2 }
/-- java/lang/Math -/
def k2 : Class := { plain "java/lang/Math" (some 0) with
  accessFlags := 49
  interfaces := #[]
  cf := some (fileOf pool2 1 #[.nestMembers #[98]] #[{ accessFlags := 2, nameIndex := 7, descriptorIndex := 8, attributes := #[] }, { accessFlags := 9, nameIndex := 198, descriptorIndex := 335, attributes := #[] }, { accessFlags := 9, nameIndex := 201, descriptorIndex := 335, attributes := #[] }] 49 4 #[] #[{ accessFlags := 25, nameIndex := 354, descriptorIndex := 339, attributes := #[] }, { accessFlags := 25, nameIndex := 358, descriptorIndex := 339, attributes := #[] }, { accessFlags := 25, nameIndex := 361, descriptorIndex := 339, attributes := #[] }, { accessFlags := 26, nameIndex := 364, descriptorIndex := 339, attributes := #[] }, { accessFlags := 26, nameIndex := 365, descriptorIndex := 339, attributes := #[] }, { accessFlags := 26, nameIndex := 172, descriptorIndex := 173, attributes := #[] }, { accessFlags := 26, nameIndex := 176, descriptorIndex := 173, attributes := #[] }, { accessFlags := 8, nameIndex := 344, descriptorIndex := 339, attributes := #[] }, { accessFlags := 8, nameIndex := 338, descriptorIndex := 339, attributes := #[] }, { accessFlags := 4120, nameIndex := 245, descriptorIndex := 246, attributes := #[] }])
  fields := #[{ name := "E", type := .double, accessFlags := 25, slot := 0, constantValue := 0 }, { name := "PI", type := .double, accessFlags := 25, slot := 1, constantValue := 0 }, { name := "TAU", type := .double, accessFlags := 25, slot := 2, constantValue := 0 }, { name := "DEGREES_TO_RADIANS", type := .double, accessFlags := 26, slot := 3, constantValue := 0 }, { name := "RADIANS_TO_DEGREES", type := .double, accessFlags := 26, slot := 4, constantValue := 0 }, { name := "negativeZeroFloatBits", type := .long, accessFlags := 26, slot := 5, constantValue := 0 }, { name := "negativeZeroDoubleBits", type := .long, accessFlags := 26, slot := 6, constantValue := 0 }, { name := "twoToTheDoubleScaleUp", type := .double, accessFlags := 8, slot := 7, constantValue := 0 }, { name := "twoToTheDoubleScaleDown", type := .double, accessFlags := 8, slot := 8, constantValue := 0 }, { name := "$assertionsDisabled", type := .boolean, accessFlags := 4120, slot := 9, constantValue := 0 }]
  methods := #[k2m0, k2m1, k2m2]
  instanceTypes := #[]
  staticTypes := #[.double, .double, .double, .double, .double, .long, .long, .double, .double, .boolean]
  resolved := Array.replicate 460 none
  statics := none }

def pool3 : Array CpInfo := pool [(2, .class_ 4), (1, u "java/lang/Object"), (3, .class_ 10), (1, u "com/example/resemblr/resemblr/MinHash"), (0, u "isPerms"), (0, u "(I)Z"), (11, u "seed"), (0, u "J"), (2, u "multipliers"), (0, u "[J"), (2, u "addends"), (6, .integer 65536), (18, u "MIN_PERMS"), (0, u "I"), (2, u "MAX_PERMS"), (0, u "GOLDEN_GAMMA")] 27

def k3c0 : Code := { maxStack := 2, maxLocals := 1, code := prog_16_method_2_code, exceptionTable := #[], attributes := #[] }
def k3m0 : Method := { name := "isPerms", desc := "(I)Z", sig := { parameters := [.int], returnType := some .boolean }, accessFlags := 9, code := some k3c0 }
/-- com/example/resemblr/resemblr/MinHash -/
def k3 : Class := { plain "com/example/resemblr/resemblr/MinHash" (some 0) with
  accessFlags := 33
  interfaces := #[]
  cf := some (fileOf pool3 8 #[] #[{ accessFlags := 9, nameIndex := 11, descriptorIndex := 12, attributes := #[] }] 33 2 #[] #[{ accessFlags := 25, nameIndex := 58, descriptorIndex := 59, attributes := #[] }, { accessFlags := 25, nameIndex := 62, descriptorIndex := 59, attributes := #[] }, { accessFlags := 26, nameIndex := 63, descriptorIndex := 25, attributes := #[] }, { accessFlags := 18, nameIndex := 24, descriptorIndex := 25, attributes := #[] }, { accessFlags := 18, nameIndex := 28, descriptorIndex := 29, attributes := #[] }, { accessFlags := 18, nameIndex := 32, descriptorIndex := 29, attributes := #[] }])
  fields := #[{ name := "MIN_PERMS", type := .int, accessFlags := 25, slot := 0, constantValue := 0 }, { name := "MAX_PERMS", type := .int, accessFlags := 25, slot := 1, constantValue := 0 }, { name := "GOLDEN_GAMMA", type := .long, accessFlags := 26, slot := 2, constantValue := 0 }, { name := "seed", type := .long, accessFlags := 18, slot := 0, constantValue := 0 }, { name := "multipliers", type := (.array .long), accessFlags := 18, slot := 1, constantValue := 0 }, { name := "addends", type := (.array .long), accessFlags := 18, slot := 2, constantValue := 0 }]
  methods := #[k3m0]
  instanceTypes := #[.long, (.array .long), (.array .long)]
  staticTypes := #[.int, .int, .long]
  resolved := Array.replicate 91 none
  statics := none }

def pool4 : Array CpInfo := pool [(1, u "java/lang/Cloneable"), (0, .class_ 1), (0, u "java/lang/Object"), (0, .class_ 3)] 3

/-- java/lang/Cloneable -/
def k4 : Class := { plain "java/lang/Cloneable" (some 0) with
  accessFlags := 1537
  interfaces := #[]
  cf := some (fileOf pool4 2 #[] #[] 1537 4 #[] #[])
  fields := #[]
  methods := #[]
  instanceTypes := #[]
  staticTypes := #[]
  resolved := Array.replicate 8 none
  statics := none }

def pool5 : Array CpInfo := pool [(1, u "java/io/Serializable"), (0, .class_ 1), (0, u "java/lang/Object"), (0, .class_ 3)] 3

/-- java/io/Serializable -/
def k5 : Class := { plain "java/io/Serializable" (some 0) with
  accessFlags := 1537
  interfaces := #[]
  cf := some (fileOf pool5 2 #[] #[] 1537 4 #[] #[])
  fields := #[]
  methods := #[]
  instanceTypes := #[]
  staticTypes := #[]
  resolved := Array.replicate 8 none
  statics := none }

/-- the primitive byte -/
def k6 : Class := { plain "byte" none with kind := .primitive 'B', accessFlags := 0x411 }
/-- [B -/
def k7 : Class := { plain "[B" (some 0) with kind := .array 6 .byte, interfaces := #[4, 5], accessFlags := 1041 }

/-- the primitive int -/
def k8 : Class := { plain "int" none with kind := .primitive 'I', accessFlags := 0x411 }
/-- [I -/
def k9 : Class := { plain "[I" (some 0) with kind := .array 8 .int, interfaces := #[4, 5], accessFlags := 1041 }

def heap : Heap := #[]
def classes : Array Class := #[k0, k1, k2, k3, k4, k5, k6, k7, k8, k9]
def interned : List (Array UInt16 × Addr) := []
def slotsUsed : Nat := 0
def theMethod : MethodId := ⟨1, 1⟩
def args0 : Array Value := #[.int 5, .int 7, .int 9]
def aboutOver (below : List Frame) : State where
  vm := { classes := classes, interned := interned.toArray }
  heap := heap
  slotsUsed := slotsUsed
  threads := #[{ frames := .invoking theMethod args0 :: below }]
def below0 : List Frame := [.native { method := ⟨0, 0⟩, args := #[] }]
def about1 : State := aboutOver below0
def p0 : Program := .bare "" "" ""
def e0 : Env := launch0.env 0 0 0
theorem w_frames : about1.frames = Frame.invoking theMethod args0 :: below0 := rfl
set_option maxRecDepth 65536 in
theorem w_args : argsFit about1.vm theMethod args0 = true := by decide +kernel
set_option maxRecDepth 65536 in
theorem w_heap : heapFits about1 = true := by decide +kernel
set_option maxRecDepth 65536 in
theorem w_runnable : about1.curStatus? = some .runnable := by decide +kernel
set_option maxRecDepth 65536 in
theorem w_alone : about1.alone = true := by decide +kernel
set_option maxRecDepth 65536 in
theorem w_named : about1.methodNamed? x = some theMethod := by decide +kernel
set_option maxRecDepth 65536 in
theorem w_hears : about1.hears theMethod below0 = true := by decide +kernel
set_option maxRecDepth 65536 in
theorem w_ripe : about1.ripe theMethod args0 below0 = true := by decide +kernel
theorem w_running : about1.status = .running := rfl
set_option maxRecDepth 65536 in
theorem w_room : about1.hasRoom e0.platform room_1 = true :=
  launch0.hasRoom_least _ room_1 (by decide +kernel) (by decide +kernel) (by decide +kernel) (by decide +kernel) (by decide +kernel) (by decide +kernel)
theorem allAtoms_all (ts : List Jvm.Cond) (a : Array Jvm.Value) (st : Jvm.State) : (allAtoms ts).before a st = ts.all (fun c => c.before a st) := by
  induction ts with
  | nil => rfl
  | cons c t ih =>
    show (Jvm.Cond.and c (allAtoms t)).before a st = _
    rw [Jvm.Cond.before_and, ih, List.all_cons]
def words1 : List Jvm.Cond := Jvm.Cond.code x code maxLocals ret :: tables_1
/-- a 'code' word, met by the world's own term for the bytes: nothing is compared byte by byte -/
theorem code_word {y : MethodName} {bytes : ByteArray} {mx : Nat} {rt : Option FieldType} {a : Array Value} {s : State} {m : MethodId} {meth : Method} {c : Code} (h1 : s.methodNamed? y = some m) (h2 : s.vm.method? m = some meth) (h3 : meth.code = some c) (h4 : c.code = bytes)
    (h5 : (c.maxLocals == mx && c.exceptionTable.isEmpty && decide (c.maxStack ≤ mostOperands) && decide (meth.sig.returnType = rt) && !meth.locks && decide (parseMethodDescriptor y.desc = some meth.sig)) = true) : (Jvm.Cond.code y bytes mx rt).before a s = true := by
  simp only [Bool.and_eq_true, beq_iff_eq, Bool.not_eq_true', decide_eq_true_eq] at h5
  obtain ⟨⟨⟨⟨⟨g1, g2⟩, g3⟩, g4⟩, g5⟩, g6⟩ := h5
  simp [Cond.before, Cond.holds, Cond.value, h1, h2, h3, h4, g1, g2, g3, g4, g5, g6]
def isCode : Jvm.Cond → Bool
  | .code _ _ _ _ => true
  | _ => false
theorem all_split {L : List Jvm.Cond} {P : Jvm.Cond → Bool} (h1 : L.all (fun c => isCode c || P c) = true) (h2 : ∀ c ∈ L.filter isCode, P c = true) : L.all P = true := by
  refine List.all_eq_true.mpr fun c hc => ?_
  have h := List.all_eq_true.mp h1 c hc
  rcases Bool.eq_false_or_eq_true (isCode c) with hi | hi
  · exact h2 c (List.mem_filter.mpr ⟨hc, hi⟩)
  · simpa [hi] using h
set_option maxRecDepth 65536 in
theorem w_c0 : (Jvm.Cond.code x code maxLocals ret).before args0 about1 = true := code_word (m := ⟨1, 1⟩) (meth := k1m1) (c := k1c1) (by decide +kernel) rfl rfl rfl (by decide +kernel)
set_option maxRecDepth 65536 in
theorem w_c1 : (Jvm.Cond.code ({ cls := "java/lang/Math", name := "min", desc := "(II)I" } : Jvm.MethodName) jdk_29_method_69_code (2 : Nat) (Option.some Jvm.ClassFile.FieldType.int)).before args0 about1 = true := code_word (m := ⟨2, 2⟩) (meth := k2m2) (c := k2c2) (by decide +kernel) rfl rfl rfl (by decide +kernel)
set_option maxRecDepth 65536 in
theorem w_c2 : (Jvm.Cond.code ({ cls := "java/lang/Math", name := "max", desc := "(II)I" } : Jvm.MethodName) jdk_29_method_65_code (2 : Nat) (Option.some Jvm.ClassFile.FieldType.int)).before args0 about1 = true := code_word (m := ⟨2, 1⟩) (meth := k2m1) (c := k2c1) (by decide +kernel) rfl rfl rfl (by decide +kernel)
set_option maxRecDepth 65536 in
theorem w_c3 : (Jvm.Cond.code ({ cls := "com/example/resemblr/resemblr/MinHash", name := "isPerms", desc := "(I)Z" } : Jvm.MethodName) prog_16_method_2_code (1 : Nat) (Option.some Jvm.ClassFile.FieldType.boolean)).before args0 about1 = true := code_word (m := ⟨3, 0⟩) (meth := k3m0) (c := k3c0) (by decide +kernel) rfl rfl rfl (by decide +kernel)
def codes1 : List Jvm.Cond := [Jvm.Cond.code x code maxLocals ret, Jvm.Cond.code ({ cls := "java/lang/Math", name := "min", desc := "(II)I" } : Jvm.MethodName) jdk_29_method_69_code (2 : Nat) (Option.some Jvm.ClassFile.FieldType.int), Jvm.Cond.code ({ cls := "java/lang/Math", name := "max", desc := "(II)I" } : Jvm.MethodName) jdk_29_method_65_code (2 : Nat) (Option.some Jvm.ClassFile.FieldType.int), Jvm.Cond.code ({ cls := "com/example/resemblr/resemblr/MinHash", name := "isPerms", desc := "(I)Z" } : Jvm.MethodName) prog_16_method_2_code (1 : Nat) (Option.some Jvm.ClassFile.FieldType.boolean)]
set_option maxRecDepth 65536 in
theorem codes_eq : words1.filter isCode = codes1 := rfl
theorem w_codes : ∀ c ∈ words1.filter isCode, c.before args0 about1 = true := by
  rw [codes_eq]
  intro c hc
  simp only [codes1, List.mem_cons, List.not_mem_nil, or_false] at hc
  rcases hc with rfl | rfl | rfl | rfl
  · exact w_c0
  · exact w_c1
  · exact w_c2
  · exact w_c3
set_option maxRecDepth 65536 in
theorem w_t1 : words1.all (fun c => isCode c || c.before args0 about1) = true := by decide +kernel
theorem w_tables : (allAtoms (Jvm.Cond.code x code maxLocals ret :: tables_1)).before args0 about1 = true := by
  rw [allAtoms_all]
  show words1.all (fun c => c.before args0 about1) = true
  refine all_split ?_ w_codes
  rw [w_t1]
set_option maxRecDepth 65536 in
theorem w_case : (Jvm.Cond.and given_1 narrow_1).before args0 about1 = true := by decide +kernel
theorem w_applies : (headSpec (Jvm.Cond.code x code maxLocals ret :: tables_1) room_1).applies x e0.platform about1 = true :=
  (Spec.applies_iff w_frames).mpr ⟨w_running, w_runnable, w_alone, w_named, w_hears, w_ripe, w_room, w_tables⟩
theorem atStart : AtStart classFile x code maxLocals ret World_1 tables_1 room_1 Calls_1 rest_1 Pre_1 launch0 p0 e0 about1 theMethod args0 below0 :=
  ⟨lists_1, trivial, launch0.admits_env _ _ _, launch0.least_env, fairChoices_fair.cas, fairChoices_fair.clock, w_frames, w_args, w_heap, w_applies, trivial, trivial, w_case⟩
end start1
theorem witness_1 : WitnessClaimed_1 := ⟨start1.p0, start1.e0, start1.about1, start1.theMethod, start1.args0, start1.below0, start1.atStart⟩
end Jvm.Pilot.@@N@@
