import JvmDerived
import JvmDerived.Pilot.@@N@@Statement
import JvmDerived.Pilot.@@N@@Code
set_option linter.unusedVariables false
set_option linter.unusedSimpArgs false
@@BLOCK:NumsL.lean.txt@@
namespace Jvm.Pilot.@@N@@
open Jvm Jvm.ClassFile Sem Op Lib Jvm.Free Jvm.Stand Jvm.LawKit Jvm.RoadKit Bundle Jvm.Pilot.@@N@@.Jvm.D
/-! own layer: the run from here ends, and Q holds of what it returned, of the heap and of the places written -/
def own_End (p : Program) (e : Env) (below : List Frame) (P : State → Outcome → Prop) (T : State) (f : JFrame) : Prop := ∃ s₂ o, Steps p.tables e below (T.setTop f) s₂ ∧ P s₂ o
def own_P (below : List Frame) (s : State) (Q : Option Value → Heap → List Loc → Prop) (kc ns : Nat) : State → Outcome → Prop := fun s₂ o => s₂.status = .running ∧ Ended s₂ below o ∧ ∃ v L, o = .returned v ∧ Q v s₂.heap L ∧ FrameEnd s o s₂ L kc ns
def own_Met (l : Launch) (Z : State) (y : MethodName) (bytes : ByteArray) (maxL : Nat) (ret : Option FieldType) (ws : List Jvm.Cond) (rm : Room) (as' : Array Value) (h : Heap) (Q : Option Value → Heap → List Loc → Prop) : Prop :=
  MetFree l y (head1 (Jvm.Cond.code y bytes maxL ret :: ws) rm) (fun a U => a = as' ∧ Z.Warmed39 U.vm ∧ U.heap = h) (fun _ _ _ _ _ => True) (fun _ U o U' => ∃ v L, o = .returned v ∧ Q v U'.heap L ∧ FrameEnd U o U' L rm.cells rm.slots)
section OwnSteps
variable {p : Program} {l : Launch} {e : Env} {R : Room} {s : State} {m : MethodId} {args : Array Value} {below : List Frame} {meth : Method} {c : Code} {T : State} {locs : List Loc} {cells slots : Nat} {P : State → Outcome → Prop} {Q : Option Value → Heap → List Loc → Prop} {kc ns : Nat} {Z : State} {a0 : Array Value} {h : Heap} {f : JFrame}
theorem own_go {T' : State} {f' : JFrame} (st : ∀ t, Steps p.tables e below (T'.setTop f') t → Steps p.tables e below (T.setTop f) t) (k : own_End p e below P T' f') : own_End p e below P T f := by
  obtain ⟨s₂, o, h1, h2⟩ := k
  exact ⟨s₂, o, st _ h1, h2⟩
theorem own_via {T' : State} {f' : JFrame} (st : Steps p.tables e below (T.setTop f) (T'.setTop f')) (k : own_End p e below P T' f') : own_End p e below P T f := own_go (fun _ h => st.trans h) k
theorem own_exf (h : False) : own_End p e below P T f := h.elim
theorem own_body {y : MethodName} {bytes : ByteArray} {maxL : Nat} {ret : Option FieldType} {ws : List Jvm.Cond} {rm : Room} {as' : Array Value} (hpl : plainFor y = true)
    (body : ∀ (p : Program) (e : Env) (s : State) (m : MethodId) (below : List Frame) (meth : Method) (c : Code) (s₁ : State), p.tables.exec = Jvm.exec → Z.Warmed39 s.vm → c.code = bytes → c.maxLocals = maxL → s.vm.findClass y.cls = some m.cls → meth.name = y.name → meth.sig.returnType = ret → meth.locks = false →
      Stand p l e rm s m as' below meth c s₁ [] 0 0 → s₁.heap = h → own_End p e below (own_P below s Q rm.cells rm.slots) s₁ (entryFrame m as' maxL)) : own_Met l Z y bytes maxL ret ws rm as' h Q := by
  refine MetFree.of_bodySF hpl hisR ?_
  intro p e s m args below meth c s₁ Bd hml0 hP hK
  obtain ⟨rfl, hZ, hh⟩ := hP
  exact body p e s m below meth c s₁ Bd.exec hZ Bd.bytes hml0 (findClass_of_methodNamed Bd.named) (name_of_methodNamed Bd.named Bd.method).1 Bd.returns Bd.notSynchronized (Stand.of_body Bd) (by rw [← hh, Bd.state]; rfl)
theorem own_cast {g g' : JFrame} (q : g = g') (k : own_End p e below P T g') : own_End p e below P T g := q ▸ k
theorem own_ret (X : Stand p l e R s m args below meth c T locs cells slots) (hP : P = own_P below s Q kc ns) (hlk : meth.locks = false) (eT : T.heap = h) {v : Option Value} (hv : meth.sig.returnType = none → v = none) (hk : cells ≤ kc) (hn : slots ≤ ns) (hQ : Q v h locs)
    (st : ∀ fs, (∀ (f : JFrame) (acts : List Action), f.method = m → f.locked = none → f.entered = [] → (doReturn e (T.setTop f) acts v).1 = T.setFrames fs) → Steps p.tables e below (T.setTop f) (T.setFrames fs)) : own_End p e below P T f := by
  obtain ⟨fs, hr, hrun, hended, hW, hsame⟩ := X.leave hv hlk
  subst hP
  exact ⟨_, _, st fs hr, hrun, hended, _, _, rfl, (eT ▸ hQ : Q v T.heap locs), ⟨_, rfl⟩, hW, hsame.mono hk hn⟩
theorem own_retV (X : Stand p l e R s m args below meth c T locs cells slots) (hP : P = own_P below s Q kc ns) (hx : p.tables.exec = Jvm.exec) (hlk : meth.locks = false) (eT : T.heap = h) {pc : Nat} {Ls : Array Slot} (hret : meth.sig.returnType = none) (hd : decode c.code pc = .ok (.return_, 1)) (hk : cells ≤ kc) (hn : slots ≤ ns) (hQ : Q none h locs) :
    own_End p e below P T (mkF m pc Ls []) := own_ret X hP hlk eT (fun _ => rfl) hk hn hQ fun _ hr => X.returnOut hx hret hd hr
theorem own_retI (X : Stand p l e R s m args below meth c T locs cells slots) (hP : P = own_P below s Q kc ns) (hx : p.tables.exec = Jvm.exec) (hlk : meth.locks = false) (eT : T.heap = h) {pc : Nat} {Ls : Array Slot} {z : Int32} {rest : List Value} (hret : meth.sig.returnType = some .int) (hd : decode c.code pc = .ok (.ireturn, 1)) (hk : cells ≤ kc) (hn : slots ≤ ns) (hQ : Q (some (.int z)) h locs) :
    own_End p e below P T (mkF m pc Ls (.int z :: rest)) := own_ret X hP hlk eT (fun h => by rw [hret] at h; cases h) hk hn hQ fun fs hr => retOut X hx hret rfl (Or.inl ⟨rfl, Or.inl rfl, z, rfl⟩) hd hr
theorem own_retN (X : Stand p l e R s m args below meth c T locs cells slots) (hP : P = own_P below s Q kc ns) (hx : p.tables.exec = Jvm.exec) (hlk : meth.locks = false) (eT : T.heap = h) {pc : Nat} {Ls : Array Slot} {z : Int32} {rest : List Value} {t : FieldType} (hret : meth.sig.returnType = some t) (ht : t = .boolean ∨ t = .byte ∨ t = .char ∨ t = .short) (hd : decode c.code pc = .ok (.ireturn, 1)) (hk : cells ≤ kc) (hn : slots ≤ ns) {z' : Int32} (hz : nar t z = z') (hQ : Q (some (.int z')) h locs) :
    own_End p e below P T (mkF m pc Ls (.int z :: rest)) := by
  subst hz
  exact own_ret X hP hlk eT (fun h => by rw [hret] at h; cases h) hk hn hQ fun fs hr => retN X hx hret ht hd hr
theorem own_retJ (X : Stand p l e R s m args below meth c T locs cells slots) (hP : P = own_P below s Q kc ns) (hx : p.tables.exec = Jvm.exec) (hlk : meth.locks = false) (eT : T.heap = h) {pc : Nat} {Ls : Array Slot} {z : Int64} {rest : List Value} (hret : meth.sig.returnType = some .long) (hd : decode c.code pc = .ok (.lreturn, 1)) (hk : cells ≤ kc) (hn : slots ≤ ns) (hQ : Q (some (.long z)) h locs) :
    own_End p e below P T (mkF m pc Ls (.long z :: rest)) := own_ret X hP hlk eT (fun h => by rw [hret] at h; cases h) hk hn hQ fun fs hr => retOut X hx hret rfl (Or.inr (Or.inl ⟨rfl, rfl, z, rfl⟩)) hd hr
theorem own_retA (X : Stand p l e R s m args below meth c T locs cells slots) (hP : P = own_P below s Q kc ns) (hx : p.tables.exec = Jvm.exec) (hlk : meth.locks = false) (eT : T.heap = h) {pc : Nat} {Ls : Array Slot} {w : Value} {rest : List Value} {t : FieldType} (hret : meth.sig.returnType = some t) (ht : t.isReference = true) (hw : w.isRef = true) (hnr : narrow t w = w) (hd : decode c.code pc = .ok (.areturn, 1)) (hk : cells ≤ kc) (hn : slots ≤ ns) (hQ : Q (some w) h locs) :
    own_End p e below P T (mkF m pc Ls (w :: rest)) := own_ret X hP hlk eT (fun h => by rw [hret] at h; cases h) hk hn hQ fun fs hr => retOut X hx hret hnr (Or.inr (Or.inr (Or.inr (Or.inr ⟨rfl, ht, hw⟩)))) hd hr
theorem own_callS (X : Stand p l e R s m args below meth c T locs cells slots) (hx : p.tables.exec = Jvm.exec) (hZ : Z.Warmed39 s.vm) {own : String} (hown : s.vm.findClass own = some m.cls) (eT : T.heap = h) {index : Nat} {y : MethodName} {bytes : ByteArray} {maxL : Nat} {ret : Option FieldType} {rm : Room} {as' : Array Value} {Q' : Option Value → Heap → List Loc → Prop}
    (w1 : (Cond.methodLink own index y).before a0 Z = true) (w2 : (Cond.static y).before a0 Z = true) (w3 : (Cond.initialized y.cls).before a0 Z = true) (w4 : (Cond.code y bytes maxL ret).before a0 Z = true) (hy : y.cls ≠ "java/lang/invoke/MethodHandle" ∧ y.cls ≠ "java/lang/invoke/VarHandle")
    (hM : own_Met l Z y bytes maxL ret [] rm as' h Q') {g : JFrame} (hg : g.method = m) (hsize : g.locals.size = c.maxLocals) {argsL rest : List Value} (hlen : ∀ sig, parseMethodDescriptor y.desc = some sig → argsL.length = sig.parameters.length) (hstack : g.stack = argsL.reverse ++ rest) (has : argsL.toArray = as') {W : Nat} (hW : 2 * g.monitorRoom + (rest.map fun v => v.category).sum ≤ W) (hdg : decode c.code g.pc = .ok (.invokestatic index, 3))
    (hf : rm.frames + 1 ≤ R.frames) (hl : W + (maxL + 11) + rm.locals ≤ R.locals) (hc : cells + rm.cells ≤ R.cells) (hs : slots + rm.slots ≤ R.slots)
    (k : ∀ v T' L, Stand p l e R s m args below meth c T' (locs ++ L) (cells + rm.cells) (slots + rm.slots) → Q' v T'.heap L → own_End p e below P T' { g with pc := g.pc + 3, stack := v.toList ++ rest }) : own_End p e below P T g := by
  obtain ⟨v, vm1, ⟨T', L1, k1, n1⟩, -, X', ⟨L, hQ, l1, y1, z1⟩, st⟩ := Jvm.LawKit.callS X hx (y := y) hown (mvT hZ w1) (mvT hZ w2) (mvT hZ w3) (mvT hZ w4) hy (backOf (W := W) hM hZ w4 w3 hf hl) hg hsize hlen hstack hW hdg (fun _ _ => ⟨has, eT, hc, hs⟩)
  dsimp only [Pt.U, Pt.locs, Pt.cells, Pt.slots] at X' l1 y1 z1 st hQ
  subst l1 y1 z1
  exact own_go st (k v T' L X' hQ)
theorem own_callC (X : Stand p l e R s m args below meth c T locs cells slots) (hx : p.tables.exec = Jvm.exec) (hZ : Z.Warmed39 s.vm) {own : String} (hown : s.vm.findClass own = some m.cls) (eT : T.heap = h) {index : Nat} {y : MethodName} {bytes : ByteArray} {maxL : Nat} {rm : Room} {as' : Array Value} {Q' : Option Value → Heap → List Loc → Prop}
    (hyi : y.name = "<init>") (w1 : (Cond.methodLink own index y).before a0 Z = true) (w2 : (Cond.instanceMethod y).before a0 Z = true) (w3 : (Cond.initialized y.cls).before a0 Z = true) (w4 : (Cond.code y bytes maxL none).before a0 Z = true) (hy : y.cls ≠ "java/lang/invoke/MethodHandle" ∧ y.cls ≠ "java/lang/invoke/VarHandle")
    (hM : own_Met l Z y bytes maxL none [] rm as' h Q') {g : JFrame} (hg : g.method = m) (hsize : g.locals.size = c.maxLocals) {a : Addr} {argsL rest : List Value} (hlen : ∀ sig, parseMethodDescriptor y.desc = some sig → argsL.length = sig.parameters.length) (hstack : g.stack = argsL.reverse ++ .ref a :: rest) (has : (.ref a :: argsL).toArray = as') {W : Nat} (hW : 2 * g.monitorRoom + (rest.map fun v => v.category).sum ≤ W) (hdg : decode c.code g.pc = .ok (.invokespecial index, 3))
    (hf : rm.frames + 1 ≤ R.frames) (hl : W + (maxL + 11) + rm.locals ≤ R.locals) (hc : cells + rm.cells ≤ R.cells) (hs : slots + rm.slots ≤ R.slots)
    (k : ∀ v T' L, Stand p l e R s m args below meth c T' (locs ++ L) (cells + rm.cells) (slots + rm.slots) → Q' v T'.heap L → own_End p e below P T' { g with pc := g.pc + 3, stack := v.toList ++ rest }) : own_End p e below P T g := by
  obtain ⟨v, vm1, ⟨T', L1, k1, n1⟩, -, X', ⟨L, hQ, l1, y1, z1⟩, st⟩ := X.specialBack hx (y := y) hyi hown (mvT hZ w1) (mvT hZ w2) (mvT hZ w4) hy (backOf (W := W) hM hZ w4 w3 hf hl) hg hsize (Steps.refl _) (a := a) hlen hstack hW hdg (fun _ _ => ⟨has, eT, hc, hs⟩)
  dsimp only [Pt.U, Pt.locs, Pt.cells, Pt.slots] at X' l1 y1 z1 st hQ
  subst l1 y1 z1
  exact own_via st (k v T' L X' hQ)
theorem own_callV (X : Stand p l e R s m args below meth c T locs cells slots) (hx : p.tables.exec = Jvm.exec) (hZ : Z.Warmed39 s.vm) {own : String} (hown : s.vm.findClass own = some m.cls) (eT : T.heap = h) {index : Nat} {C : String} {y z : MethodName} {bytes : ByteArray} {maxL : Nat} {ret : Option FieldType} {rm : Room} {as' : Array Value} {Q' : Option Value → Heap → List Loc → Prop}
    (w1 : (Cond.methodLink own index y).before a0 Z = true) (wd : (Cond.declares y).before a0 Z = true) (hnf : NotFace s y) (wsel : (Cond.selects C y z).before a0 Z = true) (w2 : (Cond.instanceMethod z).before a0 Z = true) (w3 : (Cond.initialized z.cls).before a0 Z = true) (w4 : (Cond.code z bytes maxL ret).before a0 Z = true) (hy : y.cls ≠ "java/lang/invoke/MethodHandle" ∧ y.cls ≠ "java/lang/invoke/VarHandle")
    (hM : own_Met l Z z bytes maxL ret [] rm as' h Q') {a : Addr} (E : Exa Z h a C) {g : JFrame} (hg : g.method = m) (hsize : g.locals.size = c.maxLocals) {argsL rest : List Value} (hlen : ∀ sig, parseMethodDescriptor y.desc = some sig → argsL.length = sig.parameters.length) (hstack : g.stack = argsL.reverse ++ .ref a :: rest) (has : (.ref a :: argsL).toArray = as') {W : Nat} (hW : 2 * g.monitorRoom + (rest.map fun v => v.category).sum ≤ W) (hdg : decode c.code g.pc = .ok (.invokevirtual index, 3))
    (hf : rm.frames + 1 ≤ R.frames) (hl : W + (maxL + 11) + rm.locals ≤ R.locals) (hc : cells + rm.cells ≤ R.cells) (hs : slots + rm.slots ≤ R.slots)
    (k : ∀ v T' L, Stand p l e R s m args below meth c T' (locs ++ L) (cells + rm.cells) (slots + rm.slots) → Q' v T'.heap L → own_End p e below P T' { g with pc := g.pc + 3, stack := v.toList ++ rest }) : own_End p e below P T g := by
  obtain ⟨cB, kB, q1, q2, q3⟩ := isOf (T := T) hZ eT E
  obtain ⟨v, vm1, ⟨T', L1, k1, n1⟩, -, X', ⟨L, hQ, l1, y1, z1⟩, st⟩ := X.virtualBack hx (y := y) (z := z) hown (mvT hZ w1) (mvT hZ wd) hnf (mvT hZ wsel) (mvT hZ w2) hy (backOf (W := W) hM hZ w4 w3 hf hl) q1 q3 hg hsize (Steps.refl _) hlen hstack hW hdg (fun _ _ => ⟨has, eT, hc, hs⟩)
  dsimp only [Pt.U, Pt.locs, Pt.cells, Pt.slots] at X' l1 y1 z1 st hQ
  subst l1 y1 z1
  exact own_via st (k v T' L X' hQ)
theorem own_selP {C : String} {x' y y' : MethodName} (wz : (Cond.selects C x' y').before args s = true) (hc : y'.cls = y.cls) (hpriv : s.PrivateAt y) (hinst : (Cond.instanceMethod y).before args s = true) (hy : y.cls ≠ "java/lang/invoke/MethodHandle" ∧ y.cls ≠ "java/lang/invoke/VarHandle") : (Cond.selects y.cls y y).before args s = true := by
  obtain ⟨_, _, m2, -, -, q3, -, kP, hkP, hkPi⟩ := Cond.selects_spec wz
  exact selects_self_of_private (by rw [← hc]; exact findClass_of_methodNamed q3) hkP hkPi hpriv hinst hy
theorem own_callP (X : Stand p l e R s m args below meth c T locs cells slots) (hx : p.tables.exec = Jvm.exec) (hZ : Z.Warmed39 s.vm) {own : String} (hown : s.vm.findClass own = some m.cls) (eT : T.heap = h) {index : Nat} {y : MethodName} {bytes : ByteArray} {maxL : Nat} {ret : Option FieldType} {rm : Room} {as' : Array Value} {Q' : Option Value → Heap → List Loc → Prop}
    (w1 : (Cond.methodLink own index y).before a0 Z = true) (w2 : (Cond.instanceMethod y).before a0 Z = true) (wsel : (Cond.selects y.cls y y).before args s = true) (wp : (Cond.privateMethod y).before a0 Z = true) (w3 : (Cond.initialized y.cls).before a0 Z = true) (w4 : (Cond.code y bytes maxL ret).before a0 Z = true) (hy : y.cls ≠ "java/lang/invoke/MethodHandle" ∧ y.cls ≠ "java/lang/invoke/VarHandle")
    (hM : own_Met l Z y bytes maxL ret [] rm as' h Q') {C : String} {a : Addr} (E : Exa Z h a C) {g : JFrame} (hg : g.method = m) (hsize : g.locals.size = c.maxLocals) {argsL rest : List Value} (hlen : ∀ sig, parseMethodDescriptor y.desc = some sig → argsL.length = sig.parameters.length) (hstack : g.stack = argsL.reverse ++ .ref a :: rest) (has : (.ref a :: argsL).toArray = as') {W : Nat} (hW : 2 * g.monitorRoom + (rest.map fun v => v.category).sum ≤ W) (hdg : decode c.code g.pc = .ok (.invokevirtual index, 3))
    (hf : rm.frames + 1 ≤ R.frames) (hl : W + (maxL + 11) + rm.locals ≤ R.locals) (hc : cells + rm.cells ≤ R.cells) (hs : slots + rm.slots ≤ R.slots)
    (k : ∀ v T' L, Stand p l e R s m args below meth c T' (locs ++ L) (cells + rm.cells) (slots + rm.slots) → Q' v T'.heap L → own_End p e below P T' { g with pc := g.pc + 3, stack := v.toList ++ rest }) : own_End p e below P T g := by
  obtain ⟨cq, q1, q2⟩ := E.cell
  obtain ⟨v, vm1, ⟨T', L1, k1, n1⟩, -, X', ⟨L, hQ, l1, y1, z1⟩, st⟩ := X.privateBack hx (y := y) hown (mvT hZ w1) (mvT hZ w2) wsel (Cond.privateMethod_at (mvP hZ wp (args := #[]))) (mvT hZ w4) hy (backOf (W := W) hM hZ w4 w3 hf hl) hg hsize (Steps.refl _) (a := a) (by rw [eT]; exact q1) q2 hlen hstack hW hdg (fun _ _ => ⟨has, eT, hc, hs⟩)
  dsimp only [Pt.U, Pt.locs, Pt.cells, Pt.slots] at X' l1 y1 z1 st hQ
  subst l1 y1 z1
  exact own_via st (k v T' L X' hQ)
end OwnSteps
/-! own: a truth as an int; comparisons of longs -/
def own_z (P : Prop) [Decidable P] : Int32 := if P then 1 else 0
section OwnTruth
variable {P : Prop} [Decidable P] {x y : Int64}
theorem own_z_t (h : P) : own_z P = 1 := if_pos h
theorem own_z_f (h : ¬ P) : own_z P = 0 := if_neg h
theorem own_z_nar : nar .boolean (own_z P) = own_z P := by unfold own_z; split <;> decide
theorem own_z_congr {P' : Prop} [Decidable P'] (h : P ↔ P') : own_z P = own_z P' := by unfold own_z; by_cases q : P <;> simp [q, h.symm, h.mp] <;> simp_all
theorem own_z_inj {P' : Prop} [Decidable P'] (h : own_z P = own_z P') : P ↔ P' := by
  unfold own_z at h; by_cases q : P <;> by_cases q' : P' <;> simp_all
theorem own_zY_eq (h : ¬ P) : ifCond.holds .eq (own_z P) = true := by rw [own_z_f h]; rfl
theorem own_zN_eq (h : P) : ifCond.holds .eq (own_z P) = false := by rw [own_z_t h]; rfl
theorem own_zY_ne (h : P) : ifCond.holds .ne (own_z P) = true := by rw [own_z_t h]; rfl
theorem own_zN_ne (h : ¬ P) : ifCond.holds .ne (own_z P) = false := by rw [own_z_f h]; rfl
theorem own_lY_lt (h : x < y) : ifCond.holds .lt (lcmpW x y) = true := (if0 _ _).trans (tlt ((lw_lt x y).mpr h)).1
theorem own_lN_lt (h : ¬ x < y) : ifCond.holds .lt (lcmpW x y) = false := (if0 _ _).trans (flt (mt (lw_lt x y).mp h)).1
theorem own_lY_ge (h : ¬ x < y) : ifCond.holds .ge (lcmpW x y) = true := (if0 _ _).trans (flt (mt (lw_lt x y).mp h)).2.1
theorem own_lN_ge (h : x < y) : ifCond.holds .ge (lcmpW x y) = false := (if0 _ _).trans (tlt ((lw_lt x y).mpr h)).2.1
theorem own_lY_gt (h : y < x) : ifCond.holds .gt (lcmpW x y) = true := (if0 _ _).trans (tlt ((lw_gt x y).mpr h)).2.2.1
theorem own_lN_gt (h : ¬ y < x) : ifCond.holds .gt (lcmpW x y) = false := (if0 _ _).trans (flt (mt (lw_gt x y).mp h)).2.2.1
theorem own_lY_le (h : ¬ y < x) : ifCond.holds .le (lcmpW x y) = true := (if0 _ _).trans (flt (mt (lw_gt x y).mp h)).2.2.2
theorem own_lN_le (h : y < x) : ifCond.holds .le (lcmpW x y) = false := (if0 _ _).trans (tlt ((lw_gt x y).mpr h)).2.2.2
theorem own_lY_eq (h : x = y) : ifCond.holds .eq (lcmpW x y) = true := (if0 _ _).trans (teq ((lw_eq x y).mpr h)).1
theorem own_lN_eq (h : ¬ x = y) : ifCond.holds .eq (lcmpW x y) = false := (if0 _ _).trans (feq (mt (lw_eq x y).mp h)).1
theorem own_lY_ne (h : ¬ x = y) : ifCond.holds .ne (lcmpW x y) = true := (if0 _ _).trans (feq (mt (lw_eq x y).mp h)).2
theorem own_lN_ne (h : x = y) : ifCond.holds .ne (lcmpW x y) = false := (if0 _ _).trans (teq ((lw_eq x y).mpr h)).2
end OwnTruth
/-! own: a callee that writes nothing -/
def own_Pq (val : Option Value) (h : Heap) : Option Value → Heap → List Loc → Prop := fun v h' L => v = val ∧ L = [] ∧ h' = h
section OwnPure
variable {p : Program} {l : Launch} {e : Env} {R : Room} {s : State} {m : MethodId} {args : Array Value} {below : List Frame} {meth : Method} {c : Code} {T : State} {locs : List Loc} {cells slots : Nat} {P : State → Outcome → Prop} {Q : Option Value → Heap → List Loc → Prop} {kc ns : Nat} {Z : State} {a0 : Array Value} {h : Heap} {f : JFrame}
theorem own_callSp (X : Stand p l e R s m args below meth c T locs cells slots) (hx : p.tables.exec = Jvm.exec) (hZ : Z.Warmed39 s.vm) {own : String} (hown : s.vm.findClass own = some m.cls) (eT : T.heap = h) {index : Nat} {y : MethodName} {bytes : ByteArray} {maxL : Nat} {ret : Option FieldType} {fr lo : Nat} {as' : Array Value} {val : Option Value}
    (w1 : (Cond.methodLink own index y).before a0 Z = true) (w2 : (Cond.static y).before a0 Z = true) (w3 : (Cond.initialized y.cls).before a0 Z = true) (w4 : (Cond.code y bytes maxL ret).before a0 Z = true) (hy : y.cls ≠ "java/lang/invoke/MethodHandle" ∧ y.cls ≠ "java/lang/invoke/VarHandle")
    (hM : own_Met l Z y bytes maxL ret [] { frames := fr, cells := 0, slots := 0, locals := lo } as' h (own_Pq val h)) {g : JFrame} (hg : g.method = m) (hsize : g.locals.size = c.maxLocals) {argsL rest : List Value} (hlen : ∀ sig, parseMethodDescriptor y.desc = some sig → argsL.length = sig.parameters.length) (hstack : g.stack = argsL.reverse ++ rest) (has : argsL.toArray = as') {W : Nat} (hW : 2 * g.monitorRoom + (rest.map fun v => v.category).sum ≤ W) (hdg : decode c.code g.pc = .ok (.invokestatic index, 3))
    (hf : fr + 1 ≤ R.frames) (hl : W + (maxL + 11) + lo ≤ R.locals) (hc : cells ≤ R.cells) (hs : slots ≤ R.slots)
    (k : ∀ T', Stand p l e R s m args below meth c T' locs cells slots → T'.heap = h → own_End p e below P T' { g with pc := g.pc + 3, stack := val.toList ++ rest }) : own_End p e below P T g :=
  own_callS X hx hZ hown eT w1 w2 w3 w4 hy hM hg hsize hlen hstack has hW hdg hf hl hc hs fun v T' L X' ⟨q1, q2, q3⟩ => by
    subst q1 q2
    rw [List.append_nil] at X'
    exact k T' X' q3
theorem own_callCp (X : Stand p l e R s m args below meth c T locs cells slots) (hx : p.tables.exec = Jvm.exec) (hZ : Z.Warmed39 s.vm) {own : String} (hown : s.vm.findClass own = some m.cls) (eT : T.heap = h) {index : Nat} {y : MethodName} {bytes : ByteArray} {maxL : Nat} {fr lo : Nat} {as' : Array Value} {val : Option Value}
    (hyi : y.name = "<init>") (w1 : (Cond.methodLink own index y).before a0 Z = true) (w2 : (Cond.instanceMethod y).before a0 Z = true) (w3 : (Cond.initialized y.cls).before a0 Z = true) (w4 : (Cond.code y bytes maxL none).before a0 Z = true) (hy : y.cls ≠ "java/lang/invoke/MethodHandle" ∧ y.cls ≠ "java/lang/invoke/VarHandle")
    (hM : own_Met l Z y bytes maxL none [] { frames := fr, cells := 0, slots := 0, locals := lo } as' h (own_Pq val h)) {g : JFrame} (hg : g.method = m) (hsize : g.locals.size = c.maxLocals) {a : Addr} {argsL rest : List Value} (hlen : ∀ sig, parseMethodDescriptor y.desc = some sig → argsL.length = sig.parameters.length) (hstack : g.stack = argsL.reverse ++ .ref a :: rest) (has : (.ref a :: argsL).toArray = as') {W : Nat} (hW : 2 * g.monitorRoom + (rest.map fun v => v.category).sum ≤ W) (hdg : decode c.code g.pc = .ok (.invokespecial index, 3))
    (hf : fr + 1 ≤ R.frames) (hl : W + (maxL + 11) + lo ≤ R.locals) (hc : cells ≤ R.cells) (hs : slots ≤ R.slots)
    (k : ∀ T', Stand p l e R s m args below meth c T' locs cells slots → T'.heap = h → own_End p e below P T' { g with pc := g.pc + 3, stack := val.toList ++ rest }) : own_End p e below P T g :=
  own_callC X hx hZ hown eT hyi w1 w2 w3 w4 hy hM hg hsize hlen hstack has hW hdg hf hl hc hs fun v T' L X' ⟨q1, q2, q3⟩ => by
    subst q1 q2
    rw [List.append_nil] at X'
    exact k T' X' q3
theorem own_callVp (X : Stand p l e R s m args below meth c T locs cells slots) (hx : p.tables.exec = Jvm.exec) (hZ : Z.Warmed39 s.vm) {own : String} (hown : s.vm.findClass own = some m.cls) (eT : T.heap = h) {index : Nat} {C : String} {y z : MethodName} {bytes : ByteArray} {maxL : Nat} {ret : Option FieldType} {fr lo : Nat} {as' : Array Value} {val : Option Value}
    (w1 : (Cond.methodLink own index y).before a0 Z = true) (wd : (Cond.declares y).before a0 Z = true) (hnf : NotFace s y) (wsel : (Cond.selects C y z).before a0 Z = true) (w2 : (Cond.instanceMethod z).before a0 Z = true) (w3 : (Cond.initialized z.cls).before a0 Z = true) (w4 : (Cond.code z bytes maxL ret).before a0 Z = true) (hy : y.cls ≠ "java/lang/invoke/MethodHandle" ∧ y.cls ≠ "java/lang/invoke/VarHandle")
    (hM : own_Met l Z z bytes maxL ret [] { frames := fr, cells := 0, slots := 0, locals := lo } as' h (own_Pq val h)) {a : Addr} (E : Exa Z h a C) {g : JFrame} (hg : g.method = m) (hsize : g.locals.size = c.maxLocals) {argsL rest : List Value} (hlen : ∀ sig, parseMethodDescriptor y.desc = some sig → argsL.length = sig.parameters.length) (hstack : g.stack = argsL.reverse ++ .ref a :: rest) (has : (.ref a :: argsL).toArray = as') {W : Nat} (hW : 2 * g.monitorRoom + (rest.map fun v => v.category).sum ≤ W) (hdg : decode c.code g.pc = .ok (.invokevirtual index, 3))
    (hf : fr + 1 ≤ R.frames) (hl : W + (maxL + 11) + lo ≤ R.locals) (hc : cells ≤ R.cells) (hs : slots ≤ R.slots)
    (k : ∀ T', Stand p l e R s m args below meth c T' locs cells slots → T'.heap = h → own_End p e below P T' { g with pc := g.pc + 3, stack := val.toList ++ rest }) : own_End p e below P T g :=
  own_callV X hx hZ hown eT w1 wd hnf wsel w2 w3 w4 hy hM E hg hsize hlen hstack has hW hdg hf hl hc hs fun v T' L X' ⟨q1, q2, q3⟩ => by
    subst q1 q2
    rw [List.append_nil] at X'
    exact k T' X' q3
theorem own_callPp (X : Stand p l e R s m args below meth c T locs cells slots) (hx : p.tables.exec = Jvm.exec) (hZ : Z.Warmed39 s.vm) {own : String} (hown : s.vm.findClass own = some m.cls) (eT : T.heap = h) {index : Nat} {y : MethodName} {bytes : ByteArray} {maxL : Nat} {ret : Option FieldType} {fr lo : Nat} {as' : Array Value} {val : Option Value}
    (w1 : (Cond.methodLink own index y).before a0 Z = true) (w2 : (Cond.instanceMethod y).before a0 Z = true) (wsel : (Cond.selects y.cls y y).before args s = true) (wp : (Cond.privateMethod y).before a0 Z = true) (w3 : (Cond.initialized y.cls).before a0 Z = true) (w4 : (Cond.code y bytes maxL ret).before a0 Z = true) (hy : y.cls ≠ "java/lang/invoke/MethodHandle" ∧ y.cls ≠ "java/lang/invoke/VarHandle")
    (hM : own_Met l Z y bytes maxL ret [] { frames := fr, cells := 0, slots := 0, locals := lo } as' h (own_Pq val h)) {C : String} {a : Addr} (E : Exa Z h a C) {g : JFrame} (hg : g.method = m) (hsize : g.locals.size = c.maxLocals) {argsL rest : List Value} (hlen : ∀ sig, parseMethodDescriptor y.desc = some sig → argsL.length = sig.parameters.length) (hstack : g.stack = argsL.reverse ++ .ref a :: rest) (has : (.ref a :: argsL).toArray = as') {W : Nat} (hW : 2 * g.monitorRoom + (rest.map fun v => v.category).sum ≤ W) (hdg : decode c.code g.pc = .ok (.invokevirtual index, 3))
    (hf : fr + 1 ≤ R.frames) (hl : W + (maxL + 11) + lo ≤ R.locals) (hc : cells ≤ R.cells) (hs : slots ≤ R.slots)
    (k : ∀ T', Stand p l e R s m args below meth c T' locs cells slots → T'.heap = h → own_End p e below P T' { g with pc := g.pc + 3, stack := val.toList ++ rest }) : own_End p e below P T g :=
  own_callP X hx hZ hown eT w1 w2 wsel wp w3 w4 hy hM E hg hsize hlen hstack has hW hdg hf hl hc hs fun v T' L X' ⟨q1, q2, q3⟩ => by
    subst q1 q2
    rw [List.append_nil] at X'
    exact k T' X' q3
end OwnPure
/-! own: a cell that is known -/
def own_K (h : Heap) (a : Addr) : Prop := ∃ cell : Cell, h[a]? = some cell ∧ cell.vm ≠ .unknown
theorem own_K_ext {h h' : Heap} {a : Addr} (K : own_K h a) (E : Ext h h') : own_K h' a := by obtain ⟨c, h1, h2⟩ := K; exact ⟨c, E.2 _ _ h1, h2⟩
theorem own_K_wr {h h' : Heap} {a b : Addr} {sl : Nat} {v : Value} (K : own_K h b) (W : Wr h h' a sl v) : own_K h' b := by
  obtain ⟨c, h1, h2⟩ := K
  obtain ⟨c', e1, -, e3, -⟩ := wr_at W h1
  exact ⟨c', e1, by rw [e3]; exact h2⟩
theorem own_K_keep {h h' : Heap} {a : Addr} {ws : List Addr} (K : own_K h a) (E : Keep h h' ws) : own_K h' a := by
  obtain ⟨c, h1, h2⟩ := K
  obtain ⟨c', e1, -, e3, -⟩ := E.2.2 _ _ h1
  exact ⟨c', e1, by rw [e3]; exact h2⟩
theorem own_K_new {h : Heap} {a : Addr} (U : ∃ cell : Cell, h[a]? = some cell ∧ cell.vm = .none ∧ cell.monitor = {}) : own_K h a := by
  obtain ⟨c, h1, h2, -⟩ := U
  exact ⟨c, h1, by rw [h2]; simp⟩

abbrev own_feas (a : Int32) (b c d e f : Int64) : Prop := a = (0 : Int32) ∧ b = (0 : Int64) ∧ c = (0 : Int64) ∧ d = (0 : Int64) ∧ e = (0 : Int64) ∧ f = (0 : Int64)
theorem own_or0 (x y : Int64) : x ||| y = (0 : Int64) ↔ x = (0 : Int64) ∧ y = (0 : Int64) := by
  rw [← Int64.toBitVec_inj, ← Int64.toBitVec_inj, ← Int64.toBitVec_inj, Int64.toBitVec_or]
  exact BitVec.or_eq_zero_iff
theorem own_i0 (a : Int32) : a.toInt64 = (0 : Int64) ↔ a = (0 : Int32) := by
  rw [← Int64.toInt_inj, ← Int32.toInt_inj, Int32.toInt_toInt64]; exact Iff.rfl
theorem own_fe' (a : Int32) (b c d e f : Int64) : own_feas a b c d e f ↔ ((((((a.toInt64) ||| b) ||| c) ||| d) ||| e) ||| f) = (0 : Int64) := by
  simp only [own_or0, own_i0, and_assoc]
theorem own_fe {a : Int32} {b c d e f hard : Int64} (h : hard = ((((((a.toInt64) ||| b) ||| c) ||| d) ||| e) ||| f)) : own_z (own_feas a b c d e f) = own_z (hard = (0 : Int64)) := own_z_congr (by rw [h]; exact own_fe' a b c d e f)

theorem pn_0 : plainName "java/lang/Record" = true := by first | (simp [plainName, overriddenIn]; done) | decide +kernel
theorem d2_0 : decode jdk_30_method_1_code 0 = .ok (.aload_n 0, 1) := by decide +kernel
theorem d2_1 : decode jdk_30_method_1_code 1 = .ok (.invokespecial 1, 3) := by decide +kernel
theorem d2_4 : decode jdk_30_method_1_code 4 = .ok (.return_, 1) := by decide +kernel
set_option maxRecDepth 65536 in
set_option maxHeartbeats 4000000 in
theorem ef_2 (m : MethodId) (a0 : Addr) : entryFrame m #[(.ref a0)] 1 = mkF m 0 #[.val (.ref a0)] [] := by first | (simp [entryFrame, mkF, argsToLocals, Value.category]; done) | rfl
set_option maxRecDepth 65536 in
set_option maxHeartbeats 40000000 in
theorem rm2 (l : Launch) (Z : State) (aw : Array Value) (hw : ∀ d ∈ tables_1, d.before aw Z = true) {ws : List Jvm.Cond} (a0 : Addr)  (h0 : Heap) (n0 : Nat) (Z0 : n0 ≤ h0.size)  :
    own_Met l Z (⟨"java/lang/Record", "<init>", "()V"⟩ : MethodName) jdk_30_method_1_code 1 none ws ({ frames := 1, cells := 0, slots := 0, locals := 12 } : Room) #[(.ref a0)] h0 (own_Pq none h0) := by
  refine own_body (plainFor_of_name pn_0) ?_
  intro p e s m below meth c s₁ hx hZ hby hml hown hnm hret hlk X0 e0
  replace hown : s.vm.findClass "java/lang/Record" = some m.cls := hown
  replace hml : c.maxLocals = 1 := hml
  obtain ⟨P, hP⟩ : ∃ P, P = own_P below s (own_Pq none h0) ({ frames := 1, cells := 0, slots := 0, locals := 12 } : Room).cells ({ frames := 1, cells := 0, slots := 0, locals := 12 } : Room).slots := ⟨_, rfl⟩
  rw [← hP]
  refine own_cast (ef_2 m a0) ?_
  refine own_go (T' := s₁) (f' := (mkF m 1 #[.val (.ref a0)] [(.ref a0)])) (fun t kt => ?_) ?_
  · show Steps p.tables e below (s₁.setTop (mkF m 0 #[.val (.ref a0)] [])) t
    refine XS.aloadN X0.here hx rfl (hb hby d2_0) rfl rfl ?_
    show Steps p.tables e below (s₁.setTop (mkF m 1 #[.val (.ref a0)] [(.ref a0)])) t
    exact kt
  obtain ⟨T1, X1, e1, st1⟩ := initO X0 hx hZ hown (hw _ (List.mem_of_getElem? (i := 12) rfl)) (hw _ (List.mem_of_getElem? (i := 13) rfl)) (hw _ (List.mem_of_getElem? (i := 14) rfl)) e0 (g := (mkF m 1 #[.val (.ref a0)] [(.ref a0)])) rfl (by rw [hml]; rfl) rfl (hb hby d2_1) (by decide) (W := 0) (by show 2 * 0 + _ ≤ _; exact Nat.le_of_eq rfl) (by decide)
  refine own_go st1 ?_
  exact own_retV X1 hP hx hlk e1 hret (hb hby d2_4) (by decide) (by decide) ⟨rfl, rfl, rfl⟩
theorem pd_0 : parseMethodDescriptor "()V" = some ⟨[], none⟩ := by decide +kernel
theorem pn_1 : plainName "com/example/slotwise/slotwise/Itc2007Score" = true := by first | (simp [plainName, overriddenIn]; done) | decide +kernel
theorem d1_0 : decode prog_21_method_1_code 0 = .ok (.aload_n 0, 1) := by decide +kernel
theorem d1_1 : decode prog_21_method_1_code 1 = .ok (.invokespecial 1, 3) := by decide +kernel
theorem d1_4 : decode prog_21_method_1_code 4 = .ok (.aload_n 0, 1) := by decide +kernel
theorem d1_5 : decode prog_21_method_1_code 5 = .ok (.iload_n 1, 1) := by decide +kernel
theorem d1_6 : decode prog_21_method_1_code 6 = .ok (.putfield 7, 3) := by decide +kernel
theorem d1_9 : decode prog_21_method_1_code 9 = .ok (.aload_n 0, 1) := by decide +kernel
theorem d1_10 : decode prog_21_method_1_code 10 = .ok (.lload_n 2, 1) := by decide +kernel
theorem d1_11 : decode prog_21_method_1_code 11 = .ok (.putfield 13, 3) := by decide +kernel
theorem d1_14 : decode prog_21_method_1_code 14 = .ok (.aload_n 0, 1) := by decide +kernel
theorem d1_15 : decode prog_21_method_1_code 15 = .ok (.lload 4, 2) := by decide +kernel
theorem d1_17 : decode prog_21_method_1_code 17 = .ok (.putfield 17, 3) := by decide +kernel
theorem d1_20 : decode prog_21_method_1_code 20 = .ok (.aload_n 0, 1) := by decide +kernel
theorem d1_21 : decode prog_21_method_1_code 21 = .ok (.lload 6, 2) := by decide +kernel
theorem d1_23 : decode prog_21_method_1_code 23 = .ok (.putfield 20, 3) := by decide +kernel
theorem d1_26 : decode prog_21_method_1_code 26 = .ok (.aload_n 0, 1) := by decide +kernel
theorem d1_27 : decode prog_21_method_1_code 27 = .ok (.lload 8, 2) := by decide +kernel
theorem d1_29 : decode prog_21_method_1_code 29 = .ok (.putfield 23, 3) := by decide +kernel
theorem d1_32 : decode prog_21_method_1_code 32 = .ok (.aload_n 0, 1) := by decide +kernel
theorem d1_33 : decode prog_21_method_1_code 33 = .ok (.lload 10, 2) := by decide +kernel
theorem d1_35 : decode prog_21_method_1_code 35 = .ok (.putfield 26, 3) := by decide +kernel
theorem d1_38 : decode prog_21_method_1_code 38 = .ok (.aload_n 0, 1) := by decide +kernel
theorem d1_39 : decode prog_21_method_1_code 39 = .ok (.lload 12, 2) := by decide +kernel
theorem d1_41 : decode prog_21_method_1_code 41 = .ok (.putfield 29, 3) := by decide +kernel
theorem d1_44 : decode prog_21_method_1_code 44 = .ok (.aload_n 0, 1) := by decide +kernel
theorem d1_45 : decode prog_21_method_1_code 45 = .ok (.lload 14, 2) := by decide +kernel
theorem d1_47 : decode prog_21_method_1_code 47 = .ok (.putfield 32, 3) := by decide +kernel
theorem d1_50 : decode prog_21_method_1_code 50 = .ok (.aload_n 0, 1) := by decide +kernel
theorem d1_51 : decode prog_21_method_1_code 51 = .ok (.lload 16, 2) := by decide +kernel
theorem d1_53 : decode prog_21_method_1_code 53 = .ok (.putfield 35, 3) := by decide +kernel
theorem d1_56 : decode prog_21_method_1_code 56 = .ok (.aload_n 0, 1) := by decide +kernel
theorem d1_57 : decode prog_21_method_1_code 57 = .ok (.lload 18, 2) := by decide +kernel
theorem d1_59 : decode prog_21_method_1_code 59 = .ok (.putfield 38, 3) := by decide +kernel
theorem d1_62 : decode prog_21_method_1_code 62 = .ok (.aload_n 0, 1) := by decide +kernel
theorem d1_63 : decode prog_21_method_1_code 63 = .ok (.lload 20, 2) := by decide +kernel
theorem d1_65 : decode prog_21_method_1_code 65 = .ok (.putfield 41, 3) := by decide +kernel
theorem d1_68 : decode prog_21_method_1_code 68 = .ok (.aload_n 0, 1) := by decide +kernel
theorem d1_69 : decode prog_21_method_1_code 69 = .ok (.lload 22, 2) := by decide +kernel
theorem d1_71 : decode prog_21_method_1_code 71 = .ok (.putfield 44, 3) := by decide +kernel
theorem d1_74 : decode prog_21_method_1_code 74 = .ok (.aload_n 0, 1) := by decide +kernel
theorem d1_75 : decode prog_21_method_1_code 75 = .ok (.lload 24, 2) := by decide +kernel
theorem d1_77 : decode prog_21_method_1_code 77 = .ok (.putfield 47, 3) := by decide +kernel
theorem d1_80 : decode prog_21_method_1_code 80 = .ok (.return_, 1) := by decide +kernel
set_option maxRecDepth 65536 in
set_option maxHeartbeats 4000000 in
theorem ef_1 (m : MethodId) (a0 : Addr) (p1 : Int32) (q2 : Int64) (q3 : Int64) (q4 : Int64) (q5 : Int64) (q6 : Int64) (q7 : Int64) (q8 : Int64) (q9 : Int64) (q10 : Int64) (q11 : Int64) (q12 : Int64) (q13 : Int64) : entryFrame m #[(.ref a0), (.int p1), (.long q2), (.long q3), (.long q4), (.long q5), (.long q6), (.long q7), (.long q8), (.long q9), (.long q10), (.long q11), (.long q12), (.long q13)] 26 = mkF m 0 #[.val (.ref a0), .val (.int p1), .val (.long q2), .second, .val (.long q3), .second, .val (.long q4), .second, .val (.long q5), .second, .val (.long q6), .second, .val (.long q7), .second, .val (.long q8), .second, .val (.long q9), .second, .val (.long q10), .second, .val (.long q11), .second, .val (.long q12), .second, .val (.long q13), .second] [] := by first | (simp [entryFrame, mkF, argsToLocals, Value.category]; done) | rfl
set_option maxRecDepth 65536 in
set_option maxHeartbeats 40000000 in
theorem rm1 (l : Launch) (Z : State) (aw : Array Value) (hw : ∀ d ∈ tables_1, d.before aw Z = true) {ws : List Jvm.Cond} (a0 : Addr) (p1 : Int32) (q2 : Int64) (q3 : Int64) (q4 : Int64) (q5 : Int64) (q6 : Int64) (q7 : Int64) (q8 : Int64) (q9 : Int64) (q10 : Int64) (q11 : Int64) (q12 : Int64) (q13 : Int64)  (h0 : Heap) (n0 : Nat) (Z0 : n0 ≤ h0.size) (E_a0 : Exa Z h0 a0 "com/example/slotwise/slotwise/Itc2007Score") (K_a0 : own_K h0 a0) (g_a0 : n0 ≤ a0) :
    own_Met l Z (⟨"com/example/slotwise/slotwise/Itc2007Score", "<init>", "(IJJJJJJJJJJJJ)V"⟩ : MethodName) prog_21_method_1_code 26 none ws ({ frames := 2, cells := 0, slots := 0, locals := 24 } : Room) #[(.ref a0), (.int p1), (.long q2), (.long q3), (.long q4), (.long q5), (.long q6), (.long q7), (.long q8), (.long q9), (.long q10), (.long q11), (.long q12), (.long q13)] h0 (fun v h L => v = none ∧ Fr n0 L ∧ Keep h0 h [a0] ∧ Exa Z h a0 "com/example/slotwise/slotwise/Itc2007Score" ∧ Fld Z h a0 "com/example/slotwise/slotwise/Itc2007Score" "unplaced" "I" (.int p1) ∧ Fld Z h a0 "com/example/slotwise/slotwise/Itc2007Score" "conflicts" "J" (.long q2) ∧ Fld Z h a0 "com/example/slotwise/slotwise/Itc2007Score" "roomOccupancy" "J" (.long q3) ∧ Fld Z h a0 "com/example/slotwise/slotwise/Itc2007Score" "periodUtilisation" "J" (.long q4) ∧ Fld Z h a0 "com/example/slotwise/slotwise/Itc2007Score" "periodRelated" "J" (.long q5) ∧ Fld Z h a0 "com/example/slotwise/slotwise/Itc2007Score" "roomRelated" "J" (.long q6) ∧ Fld Z h a0 "com/example/slotwise/slotwise/Itc2007Score" "twoInARow" "J" (.long q7) ∧ Fld Z h a0 "com/example/slotwise/slotwise/Itc2007Score" "twoInADay" "J" (.long q8) ∧ Fld Z h a0 "com/example/slotwise/slotwise/Itc2007Score" "periodSpread" "J" (.long q9) ∧ Fld Z h a0 "com/example/slotwise/slotwise/Itc2007Score" "mixedDurations" "J" (.long q10) ∧ Fld Z h a0 "com/example/slotwise/slotwise/Itc2007Score" "frontLoad" "J" (.long q11) ∧ Fld Z h a0 "com/example/slotwise/slotwise/Itc2007Score" "roomPenalty" "J" (.long q12) ∧ Fld Z h a0 "com/example/slotwise/slotwise/Itc2007Score" "periodPenalty" "J" (.long q13)) := by
  refine own_body (plainFor_of_name pn_1) ?_
  intro p e s m below meth c s₁ hx hZ hby hml hown hnm hret hlk X0 e0
  replace hown : s.vm.findClass "com/example/slotwise/slotwise/Itc2007Score" = some m.cls := hown
  replace hml : c.maxLocals = 26 := hml
  have N0 := Fr.nil n0
  have K0 := Keep.refl h0 [a0]
  obtain ⟨P, hP⟩ : ∃ P, P = own_P below s (fun v h L => v = none ∧ Fr n0 L ∧ Keep h0 h [a0] ∧ Exa Z h a0 "com/example/slotwise/slotwise/Itc2007Score" ∧ Fld Z h a0 "com/example/slotwise/slotwise/Itc2007Score" "unplaced" "I" (.int p1) ∧ Fld Z h a0 "com/example/slotwise/slotwise/Itc2007Score" "conflicts" "J" (.long q2) ∧ Fld Z h a0 "com/example/slotwise/slotwise/Itc2007Score" "roomOccupancy" "J" (.long q3) ∧ Fld Z h a0 "com/example/slotwise/slotwise/Itc2007Score" "periodUtilisation" "J" (.long q4) ∧ Fld Z h a0 "com/example/slotwise/slotwise/Itc2007Score" "periodRelated" "J" (.long q5) ∧ Fld Z h a0 "com/example/slotwise/slotwise/Itc2007Score" "roomRelated" "J" (.long q6) ∧ Fld Z h a0 "com/example/slotwise/slotwise/Itc2007Score" "twoInARow" "J" (.long q7) ∧ Fld Z h a0 "com/example/slotwise/slotwise/Itc2007Score" "twoInADay" "J" (.long q8) ∧ Fld Z h a0 "com/example/slotwise/slotwise/Itc2007Score" "periodSpread" "J" (.long q9) ∧ Fld Z h a0 "com/example/slotwise/slotwise/Itc2007Score" "mixedDurations" "J" (.long q10) ∧ Fld Z h a0 "com/example/slotwise/slotwise/Itc2007Score" "frontLoad" "J" (.long q11) ∧ Fld Z h a0 "com/example/slotwise/slotwise/Itc2007Score" "roomPenalty" "J" (.long q12) ∧ Fld Z h a0 "com/example/slotwise/slotwise/Itc2007Score" "periodPenalty" "J" (.long q13)) ({ frames := 2, cells := 0, slots := 0, locals := 24 } : Room).cells ({ frames := 2, cells := 0, slots := 0, locals := 24 } : Room).slots := ⟨_, rfl⟩
  rw [← hP]
  refine own_cast (ef_1 m a0 p1 q2 q3 q4 q5 q6 q7 q8 q9 q10 q11 q12 q13) ?_
  refine own_go (T' := s₁) (f' := (mkF m 1 #[.val (.ref a0), .val (.int p1), .val (.long q2), .second, .val (.long q3), .second, .val (.long q4), .second, .val (.long q5), .second, .val (.long q6), .second, .val (.long q7), .second, .val (.long q8), .second, .val (.long q9), .second, .val (.long q10), .second, .val (.long q11), .second, .val (.long q12), .second, .val (.long q13), .second] [(.ref a0)])) (fun t kt => ?_) ?_
  · show Steps p.tables e below (s₁.setTop (mkF m 0 #[.val (.ref a0), .val (.int p1), .val (.long q2), .second, .val (.long q3), .second, .val (.long q4), .second, .val (.long q5), .second, .val (.long q6), .second, .val (.long q7), .second, .val (.long q8), .second, .val (.long q9), .second, .val (.long q10), .second, .val (.long q11), .second, .val (.long q12), .second, .val (.long q13), .second] [])) t
    refine XS.aloadN X0.here hx rfl (hb hby d1_0) rfl rfl ?_
    show Steps p.tables e below (s₁.setTop (mkF m 1 #[.val (.ref a0), .val (.int p1), .val (.long q2), .second, .val (.long q3), .second, .val (.long q4), .second, .val (.long q5), .second, .val (.long q6), .second, .val (.long q7), .second, .val (.long q8), .second, .val (.long q9), .second, .val (.long q10), .second, .val (.long q11), .second, .val (.long q12), .second, .val (.long q13), .second] [(.ref a0)])) t
    exact kt
  refine own_callCp X0 hx hZ hown e0 rfl (hw _ (List.mem_of_getElem? (i := 7) rfl)) (hw _ (List.mem_of_getElem? (i := 8) rfl)) (hw _ (List.mem_of_getElem? (i := 10) rfl)) (hw _ (List.mem_of_getElem? (i := 11) rfl)) (by decide) (rm2 l Z aw hw a0 h0 n0 Z0) (g := (mkF m 1 #[.val (.ref a0), .val (.int p1), .val (.long q2), .second, .val (.long q3), .second, .val (.long q4), .second, .val (.long q5), .second, .val (.long q6), .second, .val (.long q7), .second, .val (.long q8), .second, .val (.long q9), .second, .val (.long q10), .second, .val (.long q11), .second, .val (.long q12), .second, .val (.long q13), .second] [(.ref a0)])) rfl (by rw [hml]; rfl) (argsL := []) (rest := []) (lenOf pd_0 rfl) rfl rfl (W := 0) (by show 2 * 0 + _ ≤ _; exact Nat.le_of_eq rfl) (hb hby d1_1) (by decide) (by decide) (by decide) (by decide) ?_
  intro T1 X1 e1
  refine own_go (T' := T1) (f' := (mkF m 6 #[.val (.ref a0), .val (.int p1), .val (.long q2), .second, .val (.long q3), .second, .val (.long q4), .second, .val (.long q5), .second, .val (.long q6), .second, .val (.long q7), .second, .val (.long q8), .second, .val (.long q9), .second, .val (.long q10), .second, .val (.long q11), .second, .val (.long q12), .second, .val (.long q13), .second] [(.int p1), (.ref a0)])) (fun t kt => ?_) ?_
  · show Steps p.tables e below (T1.setTop (mkF m 4 #[.val (.ref a0), .val (.int p1), .val (.long q2), .second, .val (.long q3), .second, .val (.long q4), .second, .val (.long q5), .second, .val (.long q6), .second, .val (.long q7), .second, .val (.long q8), .second, .val (.long q9), .second, .val (.long q10), .second, .val (.long q11), .second, .val (.long q12), .second, .val (.long q13), .second] [])) t
    refine XS.aloadN X1.here hx rfl (hb hby d1_4) rfl rfl ?_
    show Steps p.tables e below (T1.setTop (mkF m 5 #[.val (.ref a0), .val (.int p1), .val (.long q2), .second, .val (.long q3), .second, .val (.long q4), .second, .val (.long q5), .second, .val (.long q6), .second, .val (.long q7), .second, .val (.long q8), .second, .val (.long q9), .second, .val (.long q10), .second, .val (.long q11), .second, .val (.long q12), .second, .val (.long q13), .second] [(.ref a0)])) t
    refine XS.iloadN X1.here hx rfl (hb hby d1_5) rfl ?_
    show Steps p.tables e below (T1.setTop (mkF m 6 #[.val (.ref a0), .val (.int p1), .val (.long q2), .second, .val (.long q3), .second, .val (.long q4), .second, .val (.long q5), .second, .val (.long q6), .second, .val (.long q7), .second, .val (.long q8), .second, .val (.long q9), .second, .val (.long q10), .second, .val (.long q11), .second, .val (.long q12), .second, .val (.long q13), .second] [(.int p1), (.ref a0)])) t
    exact kt
  obtain ⟨uv2, F2_unplaced⟩ := fld_laid E_a0 K_a0 (hw _ (List.mem_of_getElem? (i := 1) rfl)) (Or.inr (hw _ (List.mem_of_getElem? (i := 16) rfl)))
  obtain ⟨T2, h2, X2, e2, W2, st2⟩ := putF X1 hx hZ hown (host := "") (Or.inl (hw _ (List.mem_of_getElem? (i := 15) rfl))) Via.refl e1 F2_unplaced E_a0 (Or.inr ⟨(hw _ (List.mem_of_getElem? (i := 16) rfl)), rfl, hnm⟩) (hw _ (List.mem_of_getElem? (i := 1) rfl)) (ty := .int) (by decide) rfl rfl (g := (mkF m 6 #[.val (.ref a0), .val (.int p1), .val (.long q2), .second, .val (.long q3), .second, .val (.long q4), .second, .val (.long q5), .second, .val (.long q6), .second, .val (.long q7), .second, .val (.long q8), .second, .val (.long q9), .second, .val (.long q10), .second, .val (.long q11), .second, .val (.long q12), .second, .val (.long q13), .second] [(.int p1), (.ref a0)])) rfl rfl (hb hby d1_6)
  refine own_go st2 ?_
  replace E_a0 := (E_a0.wr W2)
  replace F2_unplaced := (F2_unplaced.same W2)
  replace K_a0 := own_K_wr K_a0 W2
  have N2 := Fr.snoc X2 N0 g_a0
  have Z2 : n0 ≤ h2.size := Nat.le_trans Z0 (Keep.of_wr W2).1
  have KK2 := K0.wr W2 (Or.inl (by simp))
  refine own_go (T' := T2) (f' := (mkF m 11 #[.val (.ref a0), .val (.int p1), .val (.long q2), .second, .val (.long q3), .second, .val (.long q4), .second, .val (.long q5), .second, .val (.long q6), .second, .val (.long q7), .second, .val (.long q8), .second, .val (.long q9), .second, .val (.long q10), .second, .val (.long q11), .second, .val (.long q12), .second, .val (.long q13), .second] [(.long q2), (.ref a0)])) (fun t kt => ?_) ?_
  · show Steps p.tables e below (T2.setTop (mkF m 9 #[.val (.ref a0), .val (.int p1), .val (.long q2), .second, .val (.long q3), .second, .val (.long q4), .second, .val (.long q5), .second, .val (.long q6), .second, .val (.long q7), .second, .val (.long q8), .second, .val (.long q9), .second, .val (.long q10), .second, .val (.long q11), .second, .val (.long q12), .second, .val (.long q13), .second] [])) t
    refine XS.aloadN X2.here hx rfl (hb hby d1_9) rfl rfl ?_
    show Steps p.tables e below (T2.setTop (mkF m 10 #[.val (.ref a0), .val (.int p1), .val (.long q2), .second, .val (.long q3), .second, .val (.long q4), .second, .val (.long q5), .second, .val (.long q6), .second, .val (.long q7), .second, .val (.long q8), .second, .val (.long q9), .second, .val (.long q10), .second, .val (.long q11), .second, .val (.long q12), .second, .val (.long q13), .second] [(.ref a0)])) t
    refine XS.lloadN X2.here hx rfl (hb hby d1_10) rfl ?_
    show Steps p.tables e below (T2.setTop (mkF m 11 #[.val (.ref a0), .val (.int p1), .val (.long q2), .second, .val (.long q3), .second, .val (.long q4), .second, .val (.long q5), .second, .val (.long q6), .second, .val (.long q7), .second, .val (.long q8), .second, .val (.long q9), .second, .val (.long q10), .second, .val (.long q11), .second, .val (.long q12), .second, .val (.long q13), .second] [(.long q2), (.ref a0)])) t
    exact kt
  obtain ⟨uv3, F3_conflicts⟩ := fld_laid E_a0 K_a0 (hw _ (List.mem_of_getElem? (i := 1) rfl)) (Or.inr (hw _ (List.mem_of_getElem? (i := 18) rfl)))
  obtain ⟨T3, h3, X3, e3, W3, st3⟩ := putF X2 hx hZ hown (host := "") (Or.inl (hw _ (List.mem_of_getElem? (i := 17) rfl))) Via.refl e2 F3_conflicts E_a0 (Or.inr ⟨(hw _ (List.mem_of_getElem? (i := 18) rfl)), rfl, hnm⟩) (hw _ (List.mem_of_getElem? (i := 1) rfl)) (ty := .long) (by decide) rfl rfl (g := (mkF m 11 #[.val (.ref a0), .val (.int p1), .val (.long q2), .second, .val (.long q3), .second, .val (.long q4), .second, .val (.long q5), .second, .val (.long q6), .second, .val (.long q7), .second, .val (.long q8), .second, .val (.long q9), .second, .val (.long q10), .second, .val (.long q11), .second, .val (.long q12), .second, .val (.long q13), .second] [(.long q2), (.ref a0)])) rfl rfl (hb hby d1_11)
  refine own_go st3 ?_
  replace E_a0 := (E_a0.wr W3)
  replace F2_unplaced := (F2_unplaced.other W3 (Or.inr (slot_ne (Or.inr (hw _ (List.mem_of_getElem? (i := 16) rfl))) (Or.inr (hw _ (List.mem_of_getElem? (i := 18) rfl))) (by decide) (t := .int) (t' := .long) (by decide) (by decide))))
  replace F3_conflicts := (F3_conflicts.same W3)
  replace K_a0 := own_K_wr K_a0 W3
  have N3 := Fr.snoc X3 N2 g_a0
  have Z3 : n0 ≤ h3.size := Nat.le_trans Z2 (Keep.of_wr W3).1
  have KK3 := KK2.wr W3 (Or.inl (by simp))
  refine own_go (T' := T3) (f' := (mkF m 17 #[.val (.ref a0), .val (.int p1), .val (.long q2), .second, .val (.long q3), .second, .val (.long q4), .second, .val (.long q5), .second, .val (.long q6), .second, .val (.long q7), .second, .val (.long q8), .second, .val (.long q9), .second, .val (.long q10), .second, .val (.long q11), .second, .val (.long q12), .second, .val (.long q13), .second] [(.long q3), (.ref a0)])) (fun t kt => ?_) ?_
  · show Steps p.tables e below (T3.setTop (mkF m 14 #[.val (.ref a0), .val (.int p1), .val (.long q2), .second, .val (.long q3), .second, .val (.long q4), .second, .val (.long q5), .second, .val (.long q6), .second, .val (.long q7), .second, .val (.long q8), .second, .val (.long q9), .second, .val (.long q10), .second, .val (.long q11), .second, .val (.long q12), .second, .val (.long q13), .second] [])) t
    refine XS.aloadN X3.here hx rfl (hb hby d1_14) rfl rfl ?_
    show Steps p.tables e below (T3.setTop (mkF m 15 #[.val (.ref a0), .val (.int p1), .val (.long q2), .second, .val (.long q3), .second, .val (.long q4), .second, .val (.long q5), .second, .val (.long q6), .second, .val (.long q7), .second, .val (.long q8), .second, .val (.long q9), .second, .val (.long q10), .second, .val (.long q11), .second, .val (.long q12), .second, .val (.long q13), .second] [(.ref a0)])) t
    refine XS.lload X3.here hx rfl (hb hby d1_15) rfl ?_
    show Steps p.tables e below (T3.setTop (mkF m 17 #[.val (.ref a0), .val (.int p1), .val (.long q2), .second, .val (.long q3), .second, .val (.long q4), .second, .val (.long q5), .second, .val (.long q6), .second, .val (.long q7), .second, .val (.long q8), .second, .val (.long q9), .second, .val (.long q10), .second, .val (.long q11), .second, .val (.long q12), .second, .val (.long q13), .second] [(.long q3), (.ref a0)])) t
    exact kt
  obtain ⟨uv4, F4_roomOccupancy⟩ := fld_laid E_a0 K_a0 (hw _ (List.mem_of_getElem? (i := 1) rfl)) (Or.inr (hw _ (List.mem_of_getElem? (i := 20) rfl)))
  obtain ⟨T4, h4, X4, e4, W4, st4⟩ := putF X3 hx hZ hown (host := "") (Or.inl (hw _ (List.mem_of_getElem? (i := 19) rfl))) Via.refl e3 F4_roomOccupancy E_a0 (Or.inr ⟨(hw _ (List.mem_of_getElem? (i := 20) rfl)), rfl, hnm⟩) (hw _ (List.mem_of_getElem? (i := 1) rfl)) (ty := .long) (by decide) rfl rfl (g := (mkF m 17 #[.val (.ref a0), .val (.int p1), .val (.long q2), .second, .val (.long q3), .second, .val (.long q4), .second, .val (.long q5), .second, .val (.long q6), .second, .val (.long q7), .second, .val (.long q8), .second, .val (.long q9), .second, .val (.long q10), .second, .val (.long q11), .second, .val (.long q12), .second, .val (.long q13), .second] [(.long q3), (.ref a0)])) rfl rfl (hb hby d1_17)
  refine own_go st4 ?_
  replace E_a0 := (E_a0.wr W4)
  replace F2_unplaced := (F2_unplaced.other W4 (Or.inr (slot_ne (Or.inr (hw _ (List.mem_of_getElem? (i := 16) rfl))) (Or.inr (hw _ (List.mem_of_getElem? (i := 20) rfl))) (by decide) (t := .int) (t' := .long) (by decide) (by decide))))
  replace F3_conflicts := (F3_conflicts.other W4 (Or.inr (slot_ne (Or.inr (hw _ (List.mem_of_getElem? (i := 18) rfl))) (Or.inr (hw _ (List.mem_of_getElem? (i := 20) rfl))) (by decide) (t := .long) (t' := .long) (by decide) (by decide))))
  replace F4_roomOccupancy := (F4_roomOccupancy.same W4)
  replace K_a0 := own_K_wr K_a0 W4
  have N4 := Fr.snoc X4 N3 g_a0
  have Z4 : n0 ≤ h4.size := Nat.le_trans Z3 (Keep.of_wr W4).1
  have KK4 := KK3.wr W4 (Or.inl (by simp))
  refine own_go (T' := T4) (f' := (mkF m 23 #[.val (.ref a0), .val (.int p1), .val (.long q2), .second, .val (.long q3), .second, .val (.long q4), .second, .val (.long q5), .second, .val (.long q6), .second, .val (.long q7), .second, .val (.long q8), .second, .val (.long q9), .second, .val (.long q10), .second, .val (.long q11), .second, .val (.long q12), .second, .val (.long q13), .second] [(.long q4), (.ref a0)])) (fun t kt => ?_) ?_
  · show Steps p.tables e below (T4.setTop (mkF m 20 #[.val (.ref a0), .val (.int p1), .val (.long q2), .second, .val (.long q3), .second, .val (.long q4), .second, .val (.long q5), .second, .val (.long q6), .second, .val (.long q7), .second, .val (.long q8), .second, .val (.long q9), .second, .val (.long q10), .second, .val (.long q11), .second, .val (.long q12), .second, .val (.long q13), .second] [])) t
    refine XS.aloadN X4.here hx rfl (hb hby d1_20) rfl rfl ?_
    show Steps p.tables e below (T4.setTop (mkF m 21 #[.val (.ref a0), .val (.int p1), .val (.long q2), .second, .val (.long q3), .second, .val (.long q4), .second, .val (.long q5), .second, .val (.long q6), .second, .val (.long q7), .second, .val (.long q8), .second, .val (.long q9), .second, .val (.long q10), .second, .val (.long q11), .second, .val (.long q12), .second, .val (.long q13), .second] [(.ref a0)])) t
    refine XS.lload X4.here hx rfl (hb hby d1_21) rfl ?_
    show Steps p.tables e below (T4.setTop (mkF m 23 #[.val (.ref a0), .val (.int p1), .val (.long q2), .second, .val (.long q3), .second, .val (.long q4), .second, .val (.long q5), .second, .val (.long q6), .second, .val (.long q7), .second, .val (.long q8), .second, .val (.long q9), .second, .val (.long q10), .second, .val (.long q11), .second, .val (.long q12), .second, .val (.long q13), .second] [(.long q4), (.ref a0)])) t
    exact kt
  obtain ⟨uv5, F5_periodUtilisation⟩ := fld_laid E_a0 K_a0 (hw _ (List.mem_of_getElem? (i := 1) rfl)) (Or.inr (hw _ (List.mem_of_getElem? (i := 22) rfl)))
  obtain ⟨T5, h5, X5, e5, W5, st5⟩ := putF X4 hx hZ hown (host := "") (Or.inl (hw _ (List.mem_of_getElem? (i := 21) rfl))) Via.refl e4 F5_periodUtilisation E_a0 (Or.inr ⟨(hw _ (List.mem_of_getElem? (i := 22) rfl)), rfl, hnm⟩) (hw _ (List.mem_of_getElem? (i := 1) rfl)) (ty := .long) (by decide) rfl rfl (g := (mkF m 23 #[.val (.ref a0), .val (.int p1), .val (.long q2), .second, .val (.long q3), .second, .val (.long q4), .second, .val (.long q5), .second, .val (.long q6), .second, .val (.long q7), .second, .val (.long q8), .second, .val (.long q9), .second, .val (.long q10), .second, .val (.long q11), .second, .val (.long q12), .second, .val (.long q13), .second] [(.long q4), (.ref a0)])) rfl rfl (hb hby d1_23)
  refine own_go st5 ?_
  replace E_a0 := (E_a0.wr W5)
  replace F2_unplaced := (F2_unplaced.other W5 (Or.inr (slot_ne (Or.inr (hw _ (List.mem_of_getElem? (i := 16) rfl))) (Or.inr (hw _ (List.mem_of_getElem? (i := 22) rfl))) (by decide) (t := .int) (t' := .long) (by decide) (by decide))))
  replace F3_conflicts := (F3_conflicts.other W5 (Or.inr (slot_ne (Or.inr (hw _ (List.mem_of_getElem? (i := 18) rfl))) (Or.inr (hw _ (List.mem_of_getElem? (i := 22) rfl))) (by decide) (t := .long) (t' := .long) (by decide) (by decide))))
  replace F4_roomOccupancy := (F4_roomOccupancy.other W5 (Or.inr (slot_ne (Or.inr (hw _ (List.mem_of_getElem? (i := 20) rfl))) (Or.inr (hw _ (List.mem_of_getElem? (i := 22) rfl))) (by decide) (t := .long) (t' := .long) (by decide) (by decide))))
  replace F5_periodUtilisation := (F5_periodUtilisation.same W5)
  replace K_a0 := own_K_wr K_a0 W5
  have N5 := Fr.snoc X5 N4 g_a0
  have Z5 : n0 ≤ h5.size := Nat.le_trans Z4 (Keep.of_wr W5).1
  have KK5 := KK4.wr W5 (Or.inl (by simp))
  refine own_go (T' := T5) (f' := (mkF m 29 #[.val (.ref a0), .val (.int p1), .val (.long q2), .second, .val (.long q3), .second, .val (.long q4), .second, .val (.long q5), .second, .val (.long q6), .second, .val (.long q7), .second, .val (.long q8), .second, .val (.long q9), .second, .val (.long q10), .second, .val (.long q11), .second, .val (.long q12), .second, .val (.long q13), .second] [(.long q5), (.ref a0)])) (fun t kt => ?_) ?_
  · show Steps p.tables e below (T5.setTop (mkF m 26 #[.val (.ref a0), .val (.int p1), .val (.long q2), .second, .val (.long q3), .second, .val (.long q4), .second, .val (.long q5), .second, .val (.long q6), .second, .val (.long q7), .second, .val (.long q8), .second, .val (.long q9), .second, .val (.long q10), .second, .val (.long q11), .second, .val (.long q12), .second, .val (.long q13), .second] [])) t
    refine XS.aloadN X5.here hx rfl (hb hby d1_26) rfl rfl ?_
    show Steps p.tables e below (T5.setTop (mkF m 27 #[.val (.ref a0), .val (.int p1), .val (.long q2), .second, .val (.long q3), .second, .val (.long q4), .second, .val (.long q5), .second, .val (.long q6), .second, .val (.long q7), .second, .val (.long q8), .second, .val (.long q9), .second, .val (.long q10), .second, .val (.long q11), .second, .val (.long q12), .second, .val (.long q13), .second] [(.ref a0)])) t
    refine XS.lload X5.here hx rfl (hb hby d1_27) rfl ?_
    show Steps p.tables e below (T5.setTop (mkF m 29 #[.val (.ref a0), .val (.int p1), .val (.long q2), .second, .val (.long q3), .second, .val (.long q4), .second, .val (.long q5), .second, .val (.long q6), .second, .val (.long q7), .second, .val (.long q8), .second, .val (.long q9), .second, .val (.long q10), .second, .val (.long q11), .second, .val (.long q12), .second, .val (.long q13), .second] [(.long q5), (.ref a0)])) t
    exact kt
  obtain ⟨uv6, F6_periodRelated⟩ := fld_laid E_a0 K_a0 (hw _ (List.mem_of_getElem? (i := 1) rfl)) (Or.inr (hw _ (List.mem_of_getElem? (i := 24) rfl)))
  obtain ⟨T6, h6, X6, e6, W6, st6⟩ := putF X5 hx hZ hown (host := "") (Or.inl (hw _ (List.mem_of_getElem? (i := 23) rfl))) Via.refl e5 F6_periodRelated E_a0 (Or.inr ⟨(hw _ (List.mem_of_getElem? (i := 24) rfl)), rfl, hnm⟩) (hw _ (List.mem_of_getElem? (i := 1) rfl)) (ty := .long) (by decide) rfl rfl (g := (mkF m 29 #[.val (.ref a0), .val (.int p1), .val (.long q2), .second, .val (.long q3), .second, .val (.long q4), .second, .val (.long q5), .second, .val (.long q6), .second, .val (.long q7), .second, .val (.long q8), .second, .val (.long q9), .second, .val (.long q10), .second, .val (.long q11), .second, .val (.long q12), .second, .val (.long q13), .second] [(.long q5), (.ref a0)])) rfl rfl (hb hby d1_29)
  refine own_go st6 ?_
  replace E_a0 := (E_a0.wr W6)
  replace F2_unplaced := (F2_unplaced.other W6 (Or.inr (slot_ne (Or.inr (hw _ (List.mem_of_getElem? (i := 16) rfl))) (Or.inr (hw _ (List.mem_of_getElem? (i := 24) rfl))) (by decide) (t := .int) (t' := .long) (by decide) (by decide))))
  replace F3_conflicts := (F3_conflicts.other W6 (Or.inr (slot_ne (Or.inr (hw _ (List.mem_of_getElem? (i := 18) rfl))) (Or.inr (hw _ (List.mem_of_getElem? (i := 24) rfl))) (by decide) (t := .long) (t' := .long) (by decide) (by decide))))
  replace F4_roomOccupancy := (F4_roomOccupancy.other W6 (Or.inr (slot_ne (Or.inr (hw _ (List.mem_of_getElem? (i := 20) rfl))) (Or.inr (hw _ (List.mem_of_getElem? (i := 24) rfl))) (by decide) (t := .long) (t' := .long) (by decide) (by decide))))
  replace F5_periodUtilisation := (F5_periodUtilisation.other W6 (Or.inr (slot_ne (Or.inr (hw _ (List.mem_of_getElem? (i := 22) rfl))) (Or.inr (hw _ (List.mem_of_getElem? (i := 24) rfl))) (by decide) (t := .long) (t' := .long) (by decide) (by decide))))
  replace F6_periodRelated := (F6_periodRelated.same W6)
  replace K_a0 := own_K_wr K_a0 W6
  have N6 := Fr.snoc X6 N5 g_a0
  have Z6 : n0 ≤ h6.size := Nat.le_trans Z5 (Keep.of_wr W6).1
  have KK6 := KK5.wr W6 (Or.inl (by simp))
  refine own_go (T' := T6) (f' := (mkF m 35 #[.val (.ref a0), .val (.int p1), .val (.long q2), .second, .val (.long q3), .second, .val (.long q4), .second, .val (.long q5), .second, .val (.long q6), .second, .val (.long q7), .second, .val (.long q8), .second, .val (.long q9), .second, .val (.long q10), .second, .val (.long q11), .second, .val (.long q12), .second, .val (.long q13), .second] [(.long q6), (.ref a0)])) (fun t kt => ?_) ?_
  · show Steps p.tables e below (T6.setTop (mkF m 32 #[.val (.ref a0), .val (.int p1), .val (.long q2), .second, .val (.long q3), .second, .val (.long q4), .second, .val (.long q5), .second, .val (.long q6), .second, .val (.long q7), .second, .val (.long q8), .second, .val (.long q9), .second, .val (.long q10), .second, .val (.long q11), .second, .val (.long q12), .second, .val (.long q13), .second] [])) t
    refine XS.aloadN X6.here hx rfl (hb hby d1_32) rfl rfl ?_
    show Steps p.tables e below (T6.setTop (mkF m 33 #[.val (.ref a0), .val (.int p1), .val (.long q2), .second, .val (.long q3), .second, .val (.long q4), .second, .val (.long q5), .second, .val (.long q6), .second, .val (.long q7), .second, .val (.long q8), .second, .val (.long q9), .second, .val (.long q10), .second, .val (.long q11), .second, .val (.long q12), .second, .val (.long q13), .second] [(.ref a0)])) t
    refine XS.lload X6.here hx rfl (hb hby d1_33) rfl ?_
    show Steps p.tables e below (T6.setTop (mkF m 35 #[.val (.ref a0), .val (.int p1), .val (.long q2), .second, .val (.long q3), .second, .val (.long q4), .second, .val (.long q5), .second, .val (.long q6), .second, .val (.long q7), .second, .val (.long q8), .second, .val (.long q9), .second, .val (.long q10), .second, .val (.long q11), .second, .val (.long q12), .second, .val (.long q13), .second] [(.long q6), (.ref a0)])) t
    exact kt
  obtain ⟨uv7, F7_roomRelated⟩ := fld_laid E_a0 K_a0 (hw _ (List.mem_of_getElem? (i := 1) rfl)) (Or.inr (hw _ (List.mem_of_getElem? (i := 26) rfl)))
  obtain ⟨T7, h7, X7, e7, W7, st7⟩ := putF X6 hx hZ hown (host := "") (Or.inl (hw _ (List.mem_of_getElem? (i := 25) rfl))) Via.refl e6 F7_roomRelated E_a0 (Or.inr ⟨(hw _ (List.mem_of_getElem? (i := 26) rfl)), rfl, hnm⟩) (hw _ (List.mem_of_getElem? (i := 1) rfl)) (ty := .long) (by decide) rfl rfl (g := (mkF m 35 #[.val (.ref a0), .val (.int p1), .val (.long q2), .second, .val (.long q3), .second, .val (.long q4), .second, .val (.long q5), .second, .val (.long q6), .second, .val (.long q7), .second, .val (.long q8), .second, .val (.long q9), .second, .val (.long q10), .second, .val (.long q11), .second, .val (.long q12), .second, .val (.long q13), .second] [(.long q6), (.ref a0)])) rfl rfl (hb hby d1_35)
  refine own_go st7 ?_
  replace E_a0 := (E_a0.wr W7)
  replace F2_unplaced := (F2_unplaced.other W7 (Or.inr (slot_ne (Or.inr (hw _ (List.mem_of_getElem? (i := 16) rfl))) (Or.inr (hw _ (List.mem_of_getElem? (i := 26) rfl))) (by decide) (t := .int) (t' := .long) (by decide) (by decide))))
  replace F3_conflicts := (F3_conflicts.other W7 (Or.inr (slot_ne (Or.inr (hw _ (List.mem_of_getElem? (i := 18) rfl))) (Or.inr (hw _ (List.mem_of_getElem? (i := 26) rfl))) (by decide) (t := .long) (t' := .long) (by decide) (by decide))))
  replace F4_roomOccupancy := (F4_roomOccupancy.other W7 (Or.inr (slot_ne (Or.inr (hw _ (List.mem_of_getElem? (i := 20) rfl))) (Or.inr (hw _ (List.mem_of_getElem? (i := 26) rfl))) (by decide) (t := .long) (t' := .long) (by decide) (by decide))))
  replace F5_periodUtilisation := (F5_periodUtilisation.other W7 (Or.inr (slot_ne (Or.inr (hw _ (List.mem_of_getElem? (i := 22) rfl))) (Or.inr (hw _ (List.mem_of_getElem? (i := 26) rfl))) (by decide) (t := .long) (t' := .long) (by decide) (by decide))))
  replace F6_periodRelated := (F6_periodRelated.other W7 (Or.inr (slot_ne (Or.inr (hw _ (List.mem_of_getElem? (i := 24) rfl))) (Or.inr (hw _ (List.mem_of_getElem? (i := 26) rfl))) (by decide) (t := .long) (t' := .long) (by decide) (by decide))))
  replace F7_roomRelated := (F7_roomRelated.same W7)
  replace K_a0 := own_K_wr K_a0 W7
  have N7 := Fr.snoc X7 N6 g_a0
  have Z7 : n0 ≤ h7.size := Nat.le_trans Z6 (Keep.of_wr W7).1
  have KK7 := KK6.wr W7 (Or.inl (by simp))
  refine own_go (T' := T7) (f' := (mkF m 41 #[.val (.ref a0), .val (.int p1), .val (.long q2), .second, .val (.long q3), .second, .val (.long q4), .second, .val (.long q5), .second, .val (.long q6), .second, .val (.long q7), .second, .val (.long q8), .second, .val (.long q9), .second, .val (.long q10), .second, .val (.long q11), .second, .val (.long q12), .second, .val (.long q13), .second] [(.long q7), (.ref a0)])) (fun t kt => ?_) ?_
  · show Steps p.tables e below (T7.setTop (mkF m 38 #[.val (.ref a0), .val (.int p1), .val (.long q2), .second, .val (.long q3), .second, .val (.long q4), .second, .val (.long q5), .second, .val (.long q6), .second, .val (.long q7), .second, .val (.long q8), .second, .val (.long q9), .second, .val (.long q10), .second, .val (.long q11), .second, .val (.long q12), .second, .val (.long q13), .second] [])) t
    refine XS.aloadN X7.here hx rfl (hb hby d1_38) rfl rfl ?_
    show Steps p.tables e below (T7.setTop (mkF m 39 #[.val (.ref a0), .val (.int p1), .val (.long q2), .second, .val (.long q3), .second, .val (.long q4), .second, .val (.long q5), .second, .val (.long q6), .second, .val (.long q7), .second, .val (.long q8), .second, .val (.long q9), .second, .val (.long q10), .second, .val (.long q11), .second, .val (.long q12), .second, .val (.long q13), .second] [(.ref a0)])) t
    refine XS.lload X7.here hx rfl (hb hby d1_39) rfl ?_
    show Steps p.tables e below (T7.setTop (mkF m 41 #[.val (.ref a0), .val (.int p1), .val (.long q2), .second, .val (.long q3), .second, .val (.long q4), .second, .val (.long q5), .second, .val (.long q6), .second, .val (.long q7), .second, .val (.long q8), .second, .val (.long q9), .second, .val (.long q10), .second, .val (.long q11), .second, .val (.long q12), .second, .val (.long q13), .second] [(.long q7), (.ref a0)])) t
    exact kt
  obtain ⟨uv8, F8_twoInARow⟩ := fld_laid E_a0 K_a0 (hw _ (List.mem_of_getElem? (i := 1) rfl)) (Or.inr (hw _ (List.mem_of_getElem? (i := 28) rfl)))
  obtain ⟨T8, h8, X8, e8, W8, st8⟩ := putF X7 hx hZ hown (host := "") (Or.inl (hw _ (List.mem_of_getElem? (i := 27) rfl))) Via.refl e7 F8_twoInARow E_a0 (Or.inr ⟨(hw _ (List.mem_of_getElem? (i := 28) rfl)), rfl, hnm⟩) (hw _ (List.mem_of_getElem? (i := 1) rfl)) (ty := .long) (by decide) rfl rfl (g := (mkF m 41 #[.val (.ref a0), .val (.int p1), .val (.long q2), .second, .val (.long q3), .second, .val (.long q4), .second, .val (.long q5), .second, .val (.long q6), .second, .val (.long q7), .second, .val (.long q8), .second, .val (.long q9), .second, .val (.long q10), .second, .val (.long q11), .second, .val (.long q12), .second, .val (.long q13), .second] [(.long q7), (.ref a0)])) rfl rfl (hb hby d1_41)
  refine own_go st8 ?_
  replace E_a0 := (E_a0.wr W8)
  replace F2_unplaced := (F2_unplaced.other W8 (Or.inr (slot_ne (Or.inr (hw _ (List.mem_of_getElem? (i := 16) rfl))) (Or.inr (hw _ (List.mem_of_getElem? (i := 28) rfl))) (by decide) (t := .int) (t' := .long) (by decide) (by decide))))
  replace F3_conflicts := (F3_conflicts.other W8 (Or.inr (slot_ne (Or.inr (hw _ (List.mem_of_getElem? (i := 18) rfl))) (Or.inr (hw _ (List.mem_of_getElem? (i := 28) rfl))) (by decide) (t := .long) (t' := .long) (by decide) (by decide))))
  replace F4_roomOccupancy := (F4_roomOccupancy.other W8 (Or.inr (slot_ne (Or.inr (hw _ (List.mem_of_getElem? (i := 20) rfl))) (Or.inr (hw _ (List.mem_of_getElem? (i := 28) rfl))) (by decide) (t := .long) (t' := .long) (by decide) (by decide))))
  replace F5_periodUtilisation := (F5_periodUtilisation.other W8 (Or.inr (slot_ne (Or.inr (hw _ (List.mem_of_getElem? (i := 22) rfl))) (Or.inr (hw _ (List.mem_of_getElem? (i := 28) rfl))) (by decide) (t := .long) (t' := .long) (by decide) (by decide))))
  replace F6_periodRelated := (F6_periodRelated.other W8 (Or.inr (slot_ne (Or.inr (hw _ (List.mem_of_getElem? (i := 24) rfl))) (Or.inr (hw _ (List.mem_of_getElem? (i := 28) rfl))) (by decide) (t := .long) (t' := .long) (by decide) (by decide))))
  replace F7_roomRelated := (F7_roomRelated.other W8 (Or.inr (slot_ne (Or.inr (hw _ (List.mem_of_getElem? (i := 26) rfl))) (Or.inr (hw _ (List.mem_of_getElem? (i := 28) rfl))) (by decide) (t := .long) (t' := .long) (by decide) (by decide))))
  replace F8_twoInARow := (F8_twoInARow.same W8)
  replace K_a0 := own_K_wr K_a0 W8
  have N8 := Fr.snoc X8 N7 g_a0
  have Z8 : n0 ≤ h8.size := Nat.le_trans Z7 (Keep.of_wr W8).1
  have KK8 := KK7.wr W8 (Or.inl (by simp))
  refine own_go (T' := T8) (f' := (mkF m 47 #[.val (.ref a0), .val (.int p1), .val (.long q2), .second, .val (.long q3), .second, .val (.long q4), .second, .val (.long q5), .second, .val (.long q6), .second, .val (.long q7), .second, .val (.long q8), .second, .val (.long q9), .second, .val (.long q10), .second, .val (.long q11), .second, .val (.long q12), .second, .val (.long q13), .second] [(.long q8), (.ref a0)])) (fun t kt => ?_) ?_
  · show Steps p.tables e below (T8.setTop (mkF m 44 #[.val (.ref a0), .val (.int p1), .val (.long q2), .second, .val (.long q3), .second, .val (.long q4), .second, .val (.long q5), .second, .val (.long q6), .second, .val (.long q7), .second, .val (.long q8), .second, .val (.long q9), .second, .val (.long q10), .second, .val (.long q11), .second, .val (.long q12), .second, .val (.long q13), .second] [])) t
    refine XS.aloadN X8.here hx rfl (hb hby d1_44) rfl rfl ?_
    show Steps p.tables e below (T8.setTop (mkF m 45 #[.val (.ref a0), .val (.int p1), .val (.long q2), .second, .val (.long q3), .second, .val (.long q4), .second, .val (.long q5), .second, .val (.long q6), .second, .val (.long q7), .second, .val (.long q8), .second, .val (.long q9), .second, .val (.long q10), .second, .val (.long q11), .second, .val (.long q12), .second, .val (.long q13), .second] [(.ref a0)])) t
    refine XS.lload X8.here hx rfl (hb hby d1_45) rfl ?_
    show Steps p.tables e below (T8.setTop (mkF m 47 #[.val (.ref a0), .val (.int p1), .val (.long q2), .second, .val (.long q3), .second, .val (.long q4), .second, .val (.long q5), .second, .val (.long q6), .second, .val (.long q7), .second, .val (.long q8), .second, .val (.long q9), .second, .val (.long q10), .second, .val (.long q11), .second, .val (.long q12), .second, .val (.long q13), .second] [(.long q8), (.ref a0)])) t
    exact kt
  obtain ⟨uv9, F9_twoInADay⟩ := fld_laid E_a0 K_a0 (hw _ (List.mem_of_getElem? (i := 1) rfl)) (Or.inr (hw _ (List.mem_of_getElem? (i := 30) rfl)))
  obtain ⟨T9, h9, X9, e9, W9, st9⟩ := putF X8 hx hZ hown (host := "") (Or.inl (hw _ (List.mem_of_getElem? (i := 29) rfl))) Via.refl e8 F9_twoInADay E_a0 (Or.inr ⟨(hw _ (List.mem_of_getElem? (i := 30) rfl)), rfl, hnm⟩) (hw _ (List.mem_of_getElem? (i := 1) rfl)) (ty := .long) (by decide) rfl rfl (g := (mkF m 47 #[.val (.ref a0), .val (.int p1), .val (.long q2), .second, .val (.long q3), .second, .val (.long q4), .second, .val (.long q5), .second, .val (.long q6), .second, .val (.long q7), .second, .val (.long q8), .second, .val (.long q9), .second, .val (.long q10), .second, .val (.long q11), .second, .val (.long q12), .second, .val (.long q13), .second] [(.long q8), (.ref a0)])) rfl rfl (hb hby d1_47)
  refine own_go st9 ?_
  replace E_a0 := (E_a0.wr W9)
  replace F2_unplaced := (F2_unplaced.other W9 (Or.inr (slot_ne (Or.inr (hw _ (List.mem_of_getElem? (i := 16) rfl))) (Or.inr (hw _ (List.mem_of_getElem? (i := 30) rfl))) (by decide) (t := .int) (t' := .long) (by decide) (by decide))))
  replace F3_conflicts := (F3_conflicts.other W9 (Or.inr (slot_ne (Or.inr (hw _ (List.mem_of_getElem? (i := 18) rfl))) (Or.inr (hw _ (List.mem_of_getElem? (i := 30) rfl))) (by decide) (t := .long) (t' := .long) (by decide) (by decide))))
  replace F4_roomOccupancy := (F4_roomOccupancy.other W9 (Or.inr (slot_ne (Or.inr (hw _ (List.mem_of_getElem? (i := 20) rfl))) (Or.inr (hw _ (List.mem_of_getElem? (i := 30) rfl))) (by decide) (t := .long) (t' := .long) (by decide) (by decide))))
  replace F5_periodUtilisation := (F5_periodUtilisation.other W9 (Or.inr (slot_ne (Or.inr (hw _ (List.mem_of_getElem? (i := 22) rfl))) (Or.inr (hw _ (List.mem_of_getElem? (i := 30) rfl))) (by decide) (t := .long) (t' := .long) (by decide) (by decide))))
  replace F6_periodRelated := (F6_periodRelated.other W9 (Or.inr (slot_ne (Or.inr (hw _ (List.mem_of_getElem? (i := 24) rfl))) (Or.inr (hw _ (List.mem_of_getElem? (i := 30) rfl))) (by decide) (t := .long) (t' := .long) (by decide) (by decide))))
  replace F7_roomRelated := (F7_roomRelated.other W9 (Or.inr (slot_ne (Or.inr (hw _ (List.mem_of_getElem? (i := 26) rfl))) (Or.inr (hw _ (List.mem_of_getElem? (i := 30) rfl))) (by decide) (t := .long) (t' := .long) (by decide) (by decide))))
  replace F8_twoInARow := (F8_twoInARow.other W9 (Or.inr (slot_ne (Or.inr (hw _ (List.mem_of_getElem? (i := 28) rfl))) (Or.inr (hw _ (List.mem_of_getElem? (i := 30) rfl))) (by decide) (t := .long) (t' := .long) (by decide) (by decide))))
  replace F9_twoInADay := (F9_twoInADay.same W9)
  replace K_a0 := own_K_wr K_a0 W9
  have N9 := Fr.snoc X9 N8 g_a0
  have Z9 : n0 ≤ h9.size := Nat.le_trans Z8 (Keep.of_wr W9).1
  have KK9 := KK8.wr W9 (Or.inl (by simp))
  refine own_go (T' := T9) (f' := (mkF m 53 #[.val (.ref a0), .val (.int p1), .val (.long q2), .second, .val (.long q3), .second, .val (.long q4), .second, .val (.long q5), .second, .val (.long q6), .second, .val (.long q7), .second, .val (.long q8), .second, .val (.long q9), .second, .val (.long q10), .second, .val (.long q11), .second, .val (.long q12), .second, .val (.long q13), .second] [(.long q9), (.ref a0)])) (fun t kt => ?_) ?_
  · show Steps p.tables e below (T9.setTop (mkF m 50 #[.val (.ref a0), .val (.int p1), .val (.long q2), .second, .val (.long q3), .second, .val (.long q4), .second, .val (.long q5), .second, .val (.long q6), .second, .val (.long q7), .second, .val (.long q8), .second, .val (.long q9), .second, .val (.long q10), .second, .val (.long q11), .second, .val (.long q12), .second, .val (.long q13), .second] [])) t
    refine XS.aloadN X9.here hx rfl (hb hby d1_50) rfl rfl ?_
    show Steps p.tables e below (T9.setTop (mkF m 51 #[.val (.ref a0), .val (.int p1), .val (.long q2), .second, .val (.long q3), .second, .val (.long q4), .second, .val (.long q5), .second, .val (.long q6), .second, .val (.long q7), .second, .val (.long q8), .second, .val (.long q9), .second, .val (.long q10), .second, .val (.long q11), .second, .val (.long q12), .second, .val (.long q13), .second] [(.ref a0)])) t
    refine XS.lload X9.here hx rfl (hb hby d1_51) rfl ?_
    show Steps p.tables e below (T9.setTop (mkF m 53 #[.val (.ref a0), .val (.int p1), .val (.long q2), .second, .val (.long q3), .second, .val (.long q4), .second, .val (.long q5), .second, .val (.long q6), .second, .val (.long q7), .second, .val (.long q8), .second, .val (.long q9), .second, .val (.long q10), .second, .val (.long q11), .second, .val (.long q12), .second, .val (.long q13), .second] [(.long q9), (.ref a0)])) t
    exact kt
  obtain ⟨uv10, F10_periodSpread⟩ := fld_laid E_a0 K_a0 (hw _ (List.mem_of_getElem? (i := 1) rfl)) (Or.inr (hw _ (List.mem_of_getElem? (i := 32) rfl)))
  obtain ⟨T10, h10, X10, e10, W10, st10⟩ := putF X9 hx hZ hown (host := "") (Or.inl (hw _ (List.mem_of_getElem? (i := 31) rfl))) Via.refl e9 F10_periodSpread E_a0 (Or.inr ⟨(hw _ (List.mem_of_getElem? (i := 32) rfl)), rfl, hnm⟩) (hw _ (List.mem_of_getElem? (i := 1) rfl)) (ty := .long) (by decide) rfl rfl (g := (mkF m 53 #[.val (.ref a0), .val (.int p1), .val (.long q2), .second, .val (.long q3), .second, .val (.long q4), .second, .val (.long q5), .second, .val (.long q6), .second, .val (.long q7), .second, .val (.long q8), .second, .val (.long q9), .second, .val (.long q10), .second, .val (.long q11), .second, .val (.long q12), .second, .val (.long q13), .second] [(.long q9), (.ref a0)])) rfl rfl (hb hby d1_53)
  refine own_go st10 ?_
  replace E_a0 := (E_a0.wr W10)
  replace F2_unplaced := (F2_unplaced.other W10 (Or.inr (slot_ne (Or.inr (hw _ (List.mem_of_getElem? (i := 16) rfl))) (Or.inr (hw _ (List.mem_of_getElem? (i := 32) rfl))) (by decide) (t := .int) (t' := .long) (by decide) (by decide))))
  replace F3_conflicts := (F3_conflicts.other W10 (Or.inr (slot_ne (Or.inr (hw _ (List.mem_of_getElem? (i := 18) rfl))) (Or.inr (hw _ (List.mem_of_getElem? (i := 32) rfl))) (by decide) (t := .long) (t' := .long) (by decide) (by decide))))
  replace F4_roomOccupancy := (F4_roomOccupancy.other W10 (Or.inr (slot_ne (Or.inr (hw _ (List.mem_of_getElem? (i := 20) rfl))) (Or.inr (hw _ (List.mem_of_getElem? (i := 32) rfl))) (by decide) (t := .long) (t' := .long) (by decide) (by decide))))
  replace F5_periodUtilisation := (F5_periodUtilisation.other W10 (Or.inr (slot_ne (Or.inr (hw _ (List.mem_of_getElem? (i := 22) rfl))) (Or.inr (hw _ (List.mem_of_getElem? (i := 32) rfl))) (by decide) (t := .long) (t' := .long) (by decide) (by decide))))
  replace F6_periodRelated := (F6_periodRelated.other W10 (Or.inr (slot_ne (Or.inr (hw _ (List.mem_of_getElem? (i := 24) rfl))) (Or.inr (hw _ (List.mem_of_getElem? (i := 32) rfl))) (by decide) (t := .long) (t' := .long) (by decide) (by decide))))
  replace F7_roomRelated := (F7_roomRelated.other W10 (Or.inr (slot_ne (Or.inr (hw _ (List.mem_of_getElem? (i := 26) rfl))) (Or.inr (hw _ (List.mem_of_getElem? (i := 32) rfl))) (by decide) (t := .long) (t' := .long) (by decide) (by decide))))
  replace F8_twoInARow := (F8_twoInARow.other W10 (Or.inr (slot_ne (Or.inr (hw _ (List.mem_of_getElem? (i := 28) rfl))) (Or.inr (hw _ (List.mem_of_getElem? (i := 32) rfl))) (by decide) (t := .long) (t' := .long) (by decide) (by decide))))
  replace F9_twoInADay := (F9_twoInADay.other W10 (Or.inr (slot_ne (Or.inr (hw _ (List.mem_of_getElem? (i := 30) rfl))) (Or.inr (hw _ (List.mem_of_getElem? (i := 32) rfl))) (by decide) (t := .long) (t' := .long) (by decide) (by decide))))
  replace F10_periodSpread := (F10_periodSpread.same W10)
  replace K_a0 := own_K_wr K_a0 W10
  have N10 := Fr.snoc X10 N9 g_a0
  have Z10 : n0 ≤ h10.size := Nat.le_trans Z9 (Keep.of_wr W10).1
  have KK10 := KK9.wr W10 (Or.inl (by simp))
  refine own_go (T' := T10) (f' := (mkF m 59 #[.val (.ref a0), .val (.int p1), .val (.long q2), .second, .val (.long q3), .second, .val (.long q4), .second, .val (.long q5), .second, .val (.long q6), .second, .val (.long q7), .second, .val (.long q8), .second, .val (.long q9), .second, .val (.long q10), .second, .val (.long q11), .second, .val (.long q12), .second, .val (.long q13), .second] [(.long q10), (.ref a0)])) (fun t kt => ?_) ?_
  · show Steps p.tables e below (T10.setTop (mkF m 56 #[.val (.ref a0), .val (.int p1), .val (.long q2), .second, .val (.long q3), .second, .val (.long q4), .second, .val (.long q5), .second, .val (.long q6), .second, .val (.long q7), .second, .val (.long q8), .second, .val (.long q9), .second, .val (.long q10), .second, .val (.long q11), .second, .val (.long q12), .second, .val (.long q13), .second] [])) t
    refine XS.aloadN X10.here hx rfl (hb hby d1_56) rfl rfl ?_
    show Steps p.tables e below (T10.setTop (mkF m 57 #[.val (.ref a0), .val (.int p1), .val (.long q2), .second, .val (.long q3), .second, .val (.long q4), .second, .val (.long q5), .second, .val (.long q6), .second, .val (.long q7), .second, .val (.long q8), .second, .val (.long q9), .second, .val (.long q10), .second, .val (.long q11), .second, .val (.long q12), .second, .val (.long q13), .second] [(.ref a0)])) t
    refine XS.lload X10.here hx rfl (hb hby d1_57) rfl ?_
    show Steps p.tables e below (T10.setTop (mkF m 59 #[.val (.ref a0), .val (.int p1), .val (.long q2), .second, .val (.long q3), .second, .val (.long q4), .second, .val (.long q5), .second, .val (.long q6), .second, .val (.long q7), .second, .val (.long q8), .second, .val (.long q9), .second, .val (.long q10), .second, .val (.long q11), .second, .val (.long q12), .second, .val (.long q13), .second] [(.long q10), (.ref a0)])) t
    exact kt
  obtain ⟨uv11, F11_mixedDurations⟩ := fld_laid E_a0 K_a0 (hw _ (List.mem_of_getElem? (i := 1) rfl)) (Or.inr (hw _ (List.mem_of_getElem? (i := 34) rfl)))
  obtain ⟨T11, h11, X11, e11, W11, st11⟩ := putF X10 hx hZ hown (host := "") (Or.inl (hw _ (List.mem_of_getElem? (i := 33) rfl))) Via.refl e10 F11_mixedDurations E_a0 (Or.inr ⟨(hw _ (List.mem_of_getElem? (i := 34) rfl)), rfl, hnm⟩) (hw _ (List.mem_of_getElem? (i := 1) rfl)) (ty := .long) (by decide) rfl rfl (g := (mkF m 59 #[.val (.ref a0), .val (.int p1), .val (.long q2), .second, .val (.long q3), .second, .val (.long q4), .second, .val (.long q5), .second, .val (.long q6), .second, .val (.long q7), .second, .val (.long q8), .second, .val (.long q9), .second, .val (.long q10), .second, .val (.long q11), .second, .val (.long q12), .second, .val (.long q13), .second] [(.long q10), (.ref a0)])) rfl rfl (hb hby d1_59)
  refine own_go st11 ?_
  replace E_a0 := (E_a0.wr W11)
  replace F2_unplaced := (F2_unplaced.other W11 (Or.inr (slot_ne (Or.inr (hw _ (List.mem_of_getElem? (i := 16) rfl))) (Or.inr (hw _ (List.mem_of_getElem? (i := 34) rfl))) (by decide) (t := .int) (t' := .long) (by decide) (by decide))))
  replace F3_conflicts := (F3_conflicts.other W11 (Or.inr (slot_ne (Or.inr (hw _ (List.mem_of_getElem? (i := 18) rfl))) (Or.inr (hw _ (List.mem_of_getElem? (i := 34) rfl))) (by decide) (t := .long) (t' := .long) (by decide) (by decide))))
  replace F4_roomOccupancy := (F4_roomOccupancy.other W11 (Or.inr (slot_ne (Or.inr (hw _ (List.mem_of_getElem? (i := 20) rfl))) (Or.inr (hw _ (List.mem_of_getElem? (i := 34) rfl))) (by decide) (t := .long) (t' := .long) (by decide) (by decide))))
  replace F5_periodUtilisation := (F5_periodUtilisation.other W11 (Or.inr (slot_ne (Or.inr (hw _ (List.mem_of_getElem? (i := 22) rfl))) (Or.inr (hw _ (List.mem_of_getElem? (i := 34) rfl))) (by decide) (t := .long) (t' := .long) (by decide) (by decide))))
  replace F6_periodRelated := (F6_periodRelated.other W11 (Or.inr (slot_ne (Or.inr (hw _ (List.mem_of_getElem? (i := 24) rfl))) (Or.inr (hw _ (List.mem_of_getElem? (i := 34) rfl))) (by decide) (t := .long) (t' := .long) (by decide) (by decide))))
  replace F7_roomRelated := (F7_roomRelated.other W11 (Or.inr (slot_ne (Or.inr (hw _ (List.mem_of_getElem? (i := 26) rfl))) (Or.inr (hw _ (List.mem_of_getElem? (i := 34) rfl))) (by decide) (t := .long) (t' := .long) (by decide) (by decide))))
  replace F8_twoInARow := (F8_twoInARow.other W11 (Or.inr (slot_ne (Or.inr (hw _ (List.mem_of_getElem? (i := 28) rfl))) (Or.inr (hw _ (List.mem_of_getElem? (i := 34) rfl))) (by decide) (t := .long) (t' := .long) (by decide) (by decide))))
  replace F9_twoInADay := (F9_twoInADay.other W11 (Or.inr (slot_ne (Or.inr (hw _ (List.mem_of_getElem? (i := 30) rfl))) (Or.inr (hw _ (List.mem_of_getElem? (i := 34) rfl))) (by decide) (t := .long) (t' := .long) (by decide) (by decide))))
  replace F10_periodSpread := (F10_periodSpread.other W11 (Or.inr (slot_ne (Or.inr (hw _ (List.mem_of_getElem? (i := 32) rfl))) (Or.inr (hw _ (List.mem_of_getElem? (i := 34) rfl))) (by decide) (t := .long) (t' := .long) (by decide) (by decide))))
  replace F11_mixedDurations := (F11_mixedDurations.same W11)
  replace K_a0 := own_K_wr K_a0 W11
  have N11 := Fr.snoc X11 N10 g_a0
  have Z11 : n0 ≤ h11.size := Nat.le_trans Z10 (Keep.of_wr W11).1
  have KK11 := KK10.wr W11 (Or.inl (by simp))
  refine own_go (T' := T11) (f' := (mkF m 65 #[.val (.ref a0), .val (.int p1), .val (.long q2), .second, .val (.long q3), .second, .val (.long q4), .second, .val (.long q5), .second, .val (.long q6), .second, .val (.long q7), .second, .val (.long q8), .second, .val (.long q9), .second, .val (.long q10), .second, .val (.long q11), .second, .val (.long q12), .second, .val (.long q13), .second] [(.long q11), (.ref a0)])) (fun t kt => ?_) ?_
  · show Steps p.tables e below (T11.setTop (mkF m 62 #[.val (.ref a0), .val (.int p1), .val (.long q2), .second, .val (.long q3), .second, .val (.long q4), .second, .val (.long q5), .second, .val (.long q6), .second, .val (.long q7), .second, .val (.long q8), .second, .val (.long q9), .second, .val (.long q10), .second, .val (.long q11), .second, .val (.long q12), .second, .val (.long q13), .second] [])) t
    refine XS.aloadN X11.here hx rfl (hb hby d1_62) rfl rfl ?_
    show Steps p.tables e below (T11.setTop (mkF m 63 #[.val (.ref a0), .val (.int p1), .val (.long q2), .second, .val (.long q3), .second, .val (.long q4), .second, .val (.long q5), .second, .val (.long q6), .second, .val (.long q7), .second, .val (.long q8), .second, .val (.long q9), .second, .val (.long q10), .second, .val (.long q11), .second, .val (.long q12), .second, .val (.long q13), .second] [(.ref a0)])) t
    refine XS.lload X11.here hx rfl (hb hby d1_63) rfl ?_
    show Steps p.tables e below (T11.setTop (mkF m 65 #[.val (.ref a0), .val (.int p1), .val (.long q2), .second, .val (.long q3), .second, .val (.long q4), .second, .val (.long q5), .second, .val (.long q6), .second, .val (.long q7), .second, .val (.long q8), .second, .val (.long q9), .second, .val (.long q10), .second, .val (.long q11), .second, .val (.long q12), .second, .val (.long q13), .second] [(.long q11), (.ref a0)])) t
    exact kt
  obtain ⟨uv12, F12_frontLoad⟩ := fld_laid E_a0 K_a0 (hw _ (List.mem_of_getElem? (i := 1) rfl)) (Or.inr (hw _ (List.mem_of_getElem? (i := 36) rfl)))
  obtain ⟨T12, h12, X12, e12, W12, st12⟩ := putF X11 hx hZ hown (host := "") (Or.inl (hw _ (List.mem_of_getElem? (i := 35) rfl))) Via.refl e11 F12_frontLoad E_a0 (Or.inr ⟨(hw _ (List.mem_of_getElem? (i := 36) rfl)), rfl, hnm⟩) (hw _ (List.mem_of_getElem? (i := 1) rfl)) (ty := .long) (by decide) rfl rfl (g := (mkF m 65 #[.val (.ref a0), .val (.int p1), .val (.long q2), .second, .val (.long q3), .second, .val (.long q4), .second, .val (.long q5), .second, .val (.long q6), .second, .val (.long q7), .second, .val (.long q8), .second, .val (.long q9), .second, .val (.long q10), .second, .val (.long q11), .second, .val (.long q12), .second, .val (.long q13), .second] [(.long q11), (.ref a0)])) rfl rfl (hb hby d1_65)
  refine own_go st12 ?_
  replace E_a0 := (E_a0.wr W12)
  replace F2_unplaced := (F2_unplaced.other W12 (Or.inr (slot_ne (Or.inr (hw _ (List.mem_of_getElem? (i := 16) rfl))) (Or.inr (hw _ (List.mem_of_getElem? (i := 36) rfl))) (by decide) (t := .int) (t' := .long) (by decide) (by decide))))
  replace F3_conflicts := (F3_conflicts.other W12 (Or.inr (slot_ne (Or.inr (hw _ (List.mem_of_getElem? (i := 18) rfl))) (Or.inr (hw _ (List.mem_of_getElem? (i := 36) rfl))) (by decide) (t := .long) (t' := .long) (by decide) (by decide))))
  replace F4_roomOccupancy := (F4_roomOccupancy.other W12 (Or.inr (slot_ne (Or.inr (hw _ (List.mem_of_getElem? (i := 20) rfl))) (Or.inr (hw _ (List.mem_of_getElem? (i := 36) rfl))) (by decide) (t := .long) (t' := .long) (by decide) (by decide))))
  replace F5_periodUtilisation := (F5_periodUtilisation.other W12 (Or.inr (slot_ne (Or.inr (hw _ (List.mem_of_getElem? (i := 22) rfl))) (Or.inr (hw _ (List.mem_of_getElem? (i := 36) rfl))) (by decide) (t := .long) (t' := .long) (by decide) (by decide))))
  replace F6_periodRelated := (F6_periodRelated.other W12 (Or.inr (slot_ne (Or.inr (hw _ (List.mem_of_getElem? (i := 24) rfl))) (Or.inr (hw _ (List.mem_of_getElem? (i := 36) rfl))) (by decide) (t := .long) (t' := .long) (by decide) (by decide))))
  replace F7_roomRelated := (F7_roomRelated.other W12 (Or.inr (slot_ne (Or.inr (hw _ (List.mem_of_getElem? (i := 26) rfl))) (Or.inr (hw _ (List.mem_of_getElem? (i := 36) rfl))) (by decide) (t := .long) (t' := .long) (by decide) (by decide))))
  replace F8_twoInARow := (F8_twoInARow.other W12 (Or.inr (slot_ne (Or.inr (hw _ (List.mem_of_getElem? (i := 28) rfl))) (Or.inr (hw _ (List.mem_of_getElem? (i := 36) rfl))) (by decide) (t := .long) (t' := .long) (by decide) (by decide))))
  replace F9_twoInADay := (F9_twoInADay.other W12 (Or.inr (slot_ne (Or.inr (hw _ (List.mem_of_getElem? (i := 30) rfl))) (Or.inr (hw _ (List.mem_of_getElem? (i := 36) rfl))) (by decide) (t := .long) (t' := .long) (by decide) (by decide))))
  replace F10_periodSpread := (F10_periodSpread.other W12 (Or.inr (slot_ne (Or.inr (hw _ (List.mem_of_getElem? (i := 32) rfl))) (Or.inr (hw _ (List.mem_of_getElem? (i := 36) rfl))) (by decide) (t := .long) (t' := .long) (by decide) (by decide))))
  replace F11_mixedDurations := (F11_mixedDurations.other W12 (Or.inr (slot_ne (Or.inr (hw _ (List.mem_of_getElem? (i := 34) rfl))) (Or.inr (hw _ (List.mem_of_getElem? (i := 36) rfl))) (by decide) (t := .long) (t' := .long) (by decide) (by decide))))
  replace F12_frontLoad := (F12_frontLoad.same W12)
  replace K_a0 := own_K_wr K_a0 W12
  have N12 := Fr.snoc X12 N11 g_a0
  have Z12 : n0 ≤ h12.size := Nat.le_trans Z11 (Keep.of_wr W12).1
  have KK12 := KK11.wr W12 (Or.inl (by simp))
  refine own_go (T' := T12) (f' := (mkF m 71 #[.val (.ref a0), .val (.int p1), .val (.long q2), .second, .val (.long q3), .second, .val (.long q4), .second, .val (.long q5), .second, .val (.long q6), .second, .val (.long q7), .second, .val (.long q8), .second, .val (.long q9), .second, .val (.long q10), .second, .val (.long q11), .second, .val (.long q12), .second, .val (.long q13), .second] [(.long q12), (.ref a0)])) (fun t kt => ?_) ?_
  · show Steps p.tables e below (T12.setTop (mkF m 68 #[.val (.ref a0), .val (.int p1), .val (.long q2), .second, .val (.long q3), .second, .val (.long q4), .second, .val (.long q5), .second, .val (.long q6), .second, .val (.long q7), .second, .val (.long q8), .second, .val (.long q9), .second, .val (.long q10), .second, .val (.long q11), .second, .val (.long q12), .second, .val (.long q13), .second] [])) t
    refine XS.aloadN X12.here hx rfl (hb hby d1_68) rfl rfl ?_
    show Steps p.tables e below (T12.setTop (mkF m 69 #[.val (.ref a0), .val (.int p1), .val (.long q2), .second, .val (.long q3), .second, .val (.long q4), .second, .val (.long q5), .second, .val (.long q6), .second, .val (.long q7), .second, .val (.long q8), .second, .val (.long q9), .second, .val (.long q10), .second, .val (.long q11), .second, .val (.long q12), .second, .val (.long q13), .second] [(.ref a0)])) t
    refine XS.lload X12.here hx rfl (hb hby d1_69) rfl ?_
    show Steps p.tables e below (T12.setTop (mkF m 71 #[.val (.ref a0), .val (.int p1), .val (.long q2), .second, .val (.long q3), .second, .val (.long q4), .second, .val (.long q5), .second, .val (.long q6), .second, .val (.long q7), .second, .val (.long q8), .second, .val (.long q9), .second, .val (.long q10), .second, .val (.long q11), .second, .val (.long q12), .second, .val (.long q13), .second] [(.long q12), (.ref a0)])) t
    exact kt
  obtain ⟨uv13, F13_roomPenalty⟩ := fld_laid E_a0 K_a0 (hw _ (List.mem_of_getElem? (i := 1) rfl)) (Or.inr (hw _ (List.mem_of_getElem? (i := 38) rfl)))
  obtain ⟨T13, h13, X13, e13, W13, st13⟩ := putF X12 hx hZ hown (host := "") (Or.inl (hw _ (List.mem_of_getElem? (i := 37) rfl))) Via.refl e12 F13_roomPenalty E_a0 (Or.inr ⟨(hw _ (List.mem_of_getElem? (i := 38) rfl)), rfl, hnm⟩) (hw _ (List.mem_of_getElem? (i := 1) rfl)) (ty := .long) (by decide) rfl rfl (g := (mkF m 71 #[.val (.ref a0), .val (.int p1), .val (.long q2), .second, .val (.long q3), .second, .val (.long q4), .second, .val (.long q5), .second, .val (.long q6), .second, .val (.long q7), .second, .val (.long q8), .second, .val (.long q9), .second, .val (.long q10), .second, .val (.long q11), .second, .val (.long q12), .second, .val (.long q13), .second] [(.long q12), (.ref a0)])) rfl rfl (hb hby d1_71)
  refine own_go st13 ?_
  replace E_a0 := (E_a0.wr W13)
  replace F2_unplaced := (F2_unplaced.other W13 (Or.inr (slot_ne (Or.inr (hw _ (List.mem_of_getElem? (i := 16) rfl))) (Or.inr (hw _ (List.mem_of_getElem? (i := 38) rfl))) (by decide) (t := .int) (t' := .long) (by decide) (by decide))))
  replace F3_conflicts := (F3_conflicts.other W13 (Or.inr (slot_ne (Or.inr (hw _ (List.mem_of_getElem? (i := 18) rfl))) (Or.inr (hw _ (List.mem_of_getElem? (i := 38) rfl))) (by decide) (t := .long) (t' := .long) (by decide) (by decide))))
  replace F4_roomOccupancy := (F4_roomOccupancy.other W13 (Or.inr (slot_ne (Or.inr (hw _ (List.mem_of_getElem? (i := 20) rfl))) (Or.inr (hw _ (List.mem_of_getElem? (i := 38) rfl))) (by decide) (t := .long) (t' := .long) (by decide) (by decide))))
  replace F5_periodUtilisation := (F5_periodUtilisation.other W13 (Or.inr (slot_ne (Or.inr (hw _ (List.mem_of_getElem? (i := 22) rfl))) (Or.inr (hw _ (List.mem_of_getElem? (i := 38) rfl))) (by decide) (t := .long) (t' := .long) (by decide) (by decide))))
  replace F6_periodRelated := (F6_periodRelated.other W13 (Or.inr (slot_ne (Or.inr (hw _ (List.mem_of_getElem? (i := 24) rfl))) (Or.inr (hw _ (List.mem_of_getElem? (i := 38) rfl))) (by decide) (t := .long) (t' := .long) (by decide) (by decide))))
  replace F7_roomRelated := (F7_roomRelated.other W13 (Or.inr (slot_ne (Or.inr (hw _ (List.mem_of_getElem? (i := 26) rfl))) (Or.inr (hw _ (List.mem_of_getElem? (i := 38) rfl))) (by decide) (t := .long) (t' := .long) (by decide) (by decide))))
  replace F8_twoInARow := (F8_twoInARow.other W13 (Or.inr (slot_ne (Or.inr (hw _ (List.mem_of_getElem? (i := 28) rfl))) (Or.inr (hw _ (List.mem_of_getElem? (i := 38) rfl))) (by decide) (t := .long) (t' := .long) (by decide) (by decide))))
  replace F9_twoInADay := (F9_twoInADay.other W13 (Or.inr (slot_ne (Or.inr (hw _ (List.mem_of_getElem? (i := 30) rfl))) (Or.inr (hw _ (List.mem_of_getElem? (i := 38) rfl))) (by decide) (t := .long) (t' := .long) (by decide) (by decide))))
  replace F10_periodSpread := (F10_periodSpread.other W13 (Or.inr (slot_ne (Or.inr (hw _ (List.mem_of_getElem? (i := 32) rfl))) (Or.inr (hw _ (List.mem_of_getElem? (i := 38) rfl))) (by decide) (t := .long) (t' := .long) (by decide) (by decide))))
  replace F11_mixedDurations := (F11_mixedDurations.other W13 (Or.inr (slot_ne (Or.inr (hw _ (List.mem_of_getElem? (i := 34) rfl))) (Or.inr (hw _ (List.mem_of_getElem? (i := 38) rfl))) (by decide) (t := .long) (t' := .long) (by decide) (by decide))))
  replace F12_frontLoad := (F12_frontLoad.other W13 (Or.inr (slot_ne (Or.inr (hw _ (List.mem_of_getElem? (i := 36) rfl))) (Or.inr (hw _ (List.mem_of_getElem? (i := 38) rfl))) (by decide) (t := .long) (t' := .long) (by decide) (by decide))))
  replace F13_roomPenalty := (F13_roomPenalty.same W13)
  replace K_a0 := own_K_wr K_a0 W13
  have N13 := Fr.snoc X13 N12 g_a0
  have Z13 : n0 ≤ h13.size := Nat.le_trans Z12 (Keep.of_wr W13).1
  have KK13 := KK12.wr W13 (Or.inl (by simp))
  refine own_go (T' := T13) (f' := (mkF m 77 #[.val (.ref a0), .val (.int p1), .val (.long q2), .second, .val (.long q3), .second, .val (.long q4), .second, .val (.long q5), .second, .val (.long q6), .second, .val (.long q7), .second, .val (.long q8), .second, .val (.long q9), .second, .val (.long q10), .second, .val (.long q11), .second, .val (.long q12), .second, .val (.long q13), .second] [(.long q13), (.ref a0)])) (fun t kt => ?_) ?_
  · show Steps p.tables e below (T13.setTop (mkF m 74 #[.val (.ref a0), .val (.int p1), .val (.long q2), .second, .val (.long q3), .second, .val (.long q4), .second, .val (.long q5), .second, .val (.long q6), .second, .val (.long q7), .second, .val (.long q8), .second, .val (.long q9), .second, .val (.long q10), .second, .val (.long q11), .second, .val (.long q12), .second, .val (.long q13), .second] [])) t
    refine XS.aloadN X13.here hx rfl (hb hby d1_74) rfl rfl ?_
    show Steps p.tables e below (T13.setTop (mkF m 75 #[.val (.ref a0), .val (.int p1), .val (.long q2), .second, .val (.long q3), .second, .val (.long q4), .second, .val (.long q5), .second, .val (.long q6), .second, .val (.long q7), .second, .val (.long q8), .second, .val (.long q9), .second, .val (.long q10), .second, .val (.long q11), .second, .val (.long q12), .second, .val (.long q13), .second] [(.ref a0)])) t
    refine XS.lload X13.here hx rfl (hb hby d1_75) rfl ?_
    show Steps p.tables e below (T13.setTop (mkF m 77 #[.val (.ref a0), .val (.int p1), .val (.long q2), .second, .val (.long q3), .second, .val (.long q4), .second, .val (.long q5), .second, .val (.long q6), .second, .val (.long q7), .second, .val (.long q8), .second, .val (.long q9), .second, .val (.long q10), .second, .val (.long q11), .second, .val (.long q12), .second, .val (.long q13), .second] [(.long q13), (.ref a0)])) t
    exact kt
  obtain ⟨uv14, F14_periodPenalty⟩ := fld_laid E_a0 K_a0 (hw _ (List.mem_of_getElem? (i := 1) rfl)) (Or.inr (hw _ (List.mem_of_getElem? (i := 40) rfl)))
  obtain ⟨T14, h14, X14, e14, W14, st14⟩ := putF X13 hx hZ hown (host := "") (Or.inl (hw _ (List.mem_of_getElem? (i := 39) rfl))) Via.refl e13 F14_periodPenalty E_a0 (Or.inr ⟨(hw _ (List.mem_of_getElem? (i := 40) rfl)), rfl, hnm⟩) (hw _ (List.mem_of_getElem? (i := 1) rfl)) (ty := .long) (by decide) rfl rfl (g := (mkF m 77 #[.val (.ref a0), .val (.int p1), .val (.long q2), .second, .val (.long q3), .second, .val (.long q4), .second, .val (.long q5), .second, .val (.long q6), .second, .val (.long q7), .second, .val (.long q8), .second, .val (.long q9), .second, .val (.long q10), .second, .val (.long q11), .second, .val (.long q12), .second, .val (.long q13), .second] [(.long q13), (.ref a0)])) rfl rfl (hb hby d1_77)
  refine own_go st14 ?_
  replace E_a0 := (E_a0.wr W14)
  replace F2_unplaced := (F2_unplaced.other W14 (Or.inr (slot_ne (Or.inr (hw _ (List.mem_of_getElem? (i := 16) rfl))) (Or.inr (hw _ (List.mem_of_getElem? (i := 40) rfl))) (by decide) (t := .int) (t' := .long) (by decide) (by decide))))
  replace F3_conflicts := (F3_conflicts.other W14 (Or.inr (slot_ne (Or.inr (hw _ (List.mem_of_getElem? (i := 18) rfl))) (Or.inr (hw _ (List.mem_of_getElem? (i := 40) rfl))) (by decide) (t := .long) (t' := .long) (by decide) (by decide))))
  replace F4_roomOccupancy := (F4_roomOccupancy.other W14 (Or.inr (slot_ne (Or.inr (hw _ (List.mem_of_getElem? (i := 20) rfl))) (Or.inr (hw _ (List.mem_of_getElem? (i := 40) rfl))) (by decide) (t := .long) (t' := .long) (by decide) (by decide))))
  replace F5_periodUtilisation := (F5_periodUtilisation.other W14 (Or.inr (slot_ne (Or.inr (hw _ (List.mem_of_getElem? (i := 22) rfl))) (Or.inr (hw _ (List.mem_of_getElem? (i := 40) rfl))) (by decide) (t := .long) (t' := .long) (by decide) (by decide))))
  replace F6_periodRelated := (F6_periodRelated.other W14 (Or.inr (slot_ne (Or.inr (hw _ (List.mem_of_getElem? (i := 24) rfl))) (Or.inr (hw _ (List.mem_of_getElem? (i := 40) rfl))) (by decide) (t := .long) (t' := .long) (by decide) (by decide))))
  replace F7_roomRelated := (F7_roomRelated.other W14 (Or.inr (slot_ne (Or.inr (hw _ (List.mem_of_getElem? (i := 26) rfl))) (Or.inr (hw _ (List.mem_of_getElem? (i := 40) rfl))) (by decide) (t := .long) (t' := .long) (by decide) (by decide))))
  replace F8_twoInARow := (F8_twoInARow.other W14 (Or.inr (slot_ne (Or.inr (hw _ (List.mem_of_getElem? (i := 28) rfl))) (Or.inr (hw _ (List.mem_of_getElem? (i := 40) rfl))) (by decide) (t := .long) (t' := .long) (by decide) (by decide))))
  replace F9_twoInADay := (F9_twoInADay.other W14 (Or.inr (slot_ne (Or.inr (hw _ (List.mem_of_getElem? (i := 30) rfl))) (Or.inr (hw _ (List.mem_of_getElem? (i := 40) rfl))) (by decide) (t := .long) (t' := .long) (by decide) (by decide))))
  replace F10_periodSpread := (F10_periodSpread.other W14 (Or.inr (slot_ne (Or.inr (hw _ (List.mem_of_getElem? (i := 32) rfl))) (Or.inr (hw _ (List.mem_of_getElem? (i := 40) rfl))) (by decide) (t := .long) (t' := .long) (by decide) (by decide))))
  replace F11_mixedDurations := (F11_mixedDurations.other W14 (Or.inr (slot_ne (Or.inr (hw _ (List.mem_of_getElem? (i := 34) rfl))) (Or.inr (hw _ (List.mem_of_getElem? (i := 40) rfl))) (by decide) (t := .long) (t' := .long) (by decide) (by decide))))
  replace F12_frontLoad := (F12_frontLoad.other W14 (Or.inr (slot_ne (Or.inr (hw _ (List.mem_of_getElem? (i := 36) rfl))) (Or.inr (hw _ (List.mem_of_getElem? (i := 40) rfl))) (by decide) (t := .long) (t' := .long) (by decide) (by decide))))
  replace F13_roomPenalty := (F13_roomPenalty.other W14 (Or.inr (slot_ne (Or.inr (hw _ (List.mem_of_getElem? (i := 38) rfl))) (Or.inr (hw _ (List.mem_of_getElem? (i := 40) rfl))) (by decide) (t := .long) (t' := .long) (by decide) (by decide))))
  replace F14_periodPenalty := (F14_periodPenalty.same W14)
  replace K_a0 := own_K_wr K_a0 W14
  have N14 := Fr.snoc X14 N13 g_a0
  have Z14 : n0 ≤ h14.size := Nat.le_trans Z13 (Keep.of_wr W14).1
  have KK14 := KK13.wr W14 (Or.inl (by simp))
  exact own_retV X14 hP hx hlk e14 hret (hb hby d1_80) (by decide) (by decide) ⟨rfl, N14, KK14, E_a0, F2_unplaced, F3_conflicts, F4_roomOccupancy, F5_periodUtilisation, F6_periodRelated, F7_roomRelated, F8_twoInARow, F9_twoInADay, F10_periodSpread, F11_mixedDurations, F12_frontLoad, F13_roomPenalty, F14_periodPenalty⟩
theorem d4_0 : decode prog_21_method_3_code 0 = .ok (.aload_n 0, 1) := by decide +kernel
theorem d4_1 : decode prog_21_method_3_code 1 = .ok (.getfield 7, 3) := by decide +kernel
theorem d4_4 : decode prog_21_method_3_code 4 = .ok (.ifCond .ne 52, 3) := by decide +kernel
theorem d4_7 : decode prog_21_method_3_code 7 = .ok (.aload_n 0, 1) := by decide +kernel
theorem d4_8 : decode prog_21_method_3_code 8 = .ok (.getfield 13, 3) := by decide +kernel
theorem d4_11 : decode prog_21_method_3_code 11 = .ok (.lconst 0, 1) := by decide +kernel
theorem d4_12 : decode prog_21_method_3_code 12 = .ok (.lcmp, 1) := by decide +kernel
theorem d4_13 : decode prog_21_method_3_code 13 = .ok (.ifCond .ne 43, 3) := by decide +kernel
theorem d4_16 : decode prog_21_method_3_code 16 = .ok (.aload_n 0, 1) := by decide +kernel
theorem d4_17 : decode prog_21_method_3_code 17 = .ok (.getfield 17, 3) := by decide +kernel
theorem d4_20 : decode prog_21_method_3_code 20 = .ok (.lconst 0, 1) := by decide +kernel
theorem d4_21 : decode prog_21_method_3_code 21 = .ok (.lcmp, 1) := by decide +kernel
theorem d4_22 : decode prog_21_method_3_code 22 = .ok (.ifCond .ne 34, 3) := by decide +kernel
theorem d4_25 : decode prog_21_method_3_code 25 = .ok (.aload_n 0, 1) := by decide +kernel
theorem d4_26 : decode prog_21_method_3_code 26 = .ok (.getfield 20, 3) := by decide +kernel
theorem d4_29 : decode prog_21_method_3_code 29 = .ok (.lconst 0, 1) := by decide +kernel
theorem d4_30 : decode prog_21_method_3_code 30 = .ok (.lcmp, 1) := by decide +kernel
theorem d4_31 : decode prog_21_method_3_code 31 = .ok (.ifCond .ne 25, 3) := by decide +kernel
theorem d4_34 : decode prog_21_method_3_code 34 = .ok (.aload_n 0, 1) := by decide +kernel
theorem d4_35 : decode prog_21_method_3_code 35 = .ok (.getfield 23, 3) := by decide +kernel
theorem d4_38 : decode prog_21_method_3_code 38 = .ok (.lconst 0, 1) := by decide +kernel
theorem d4_39 : decode prog_21_method_3_code 39 = .ok (.lcmp, 1) := by decide +kernel
theorem d4_40 : decode prog_21_method_3_code 40 = .ok (.ifCond .ne 16, 3) := by decide +kernel
theorem d4_43 : decode prog_21_method_3_code 43 = .ok (.aload_n 0, 1) := by decide +kernel
theorem d4_44 : decode prog_21_method_3_code 44 = .ok (.getfield 26, 3) := by decide +kernel
theorem d4_47 : decode prog_21_method_3_code 47 = .ok (.lconst 0, 1) := by decide +kernel
theorem d4_48 : decode prog_21_method_3_code 48 = .ok (.lcmp, 1) := by decide +kernel
theorem d4_49 : decode prog_21_method_3_code 49 = .ok (.ifCond .ne 7, 3) := by decide +kernel
theorem d4_52 : decode prog_21_method_3_code 52 = .ok (.iconst 1, 1) := by decide +kernel
theorem d4_53 : decode prog_21_method_3_code 53 = .ok (.goto 4, 3) := by decide +kernel
theorem d4_56 : decode prog_21_method_3_code 56 = .ok (.iconst 0, 1) := by decide +kernel
theorem d4_57 : decode prog_21_method_3_code 57 = .ok (.ireturn, 1) := by decide +kernel
set_option maxRecDepth 65536 in
set_option maxHeartbeats 4000000 in
theorem ef_4 (m : MethodId) (a0 : Addr) : entryFrame m #[(.ref a0)] 1 = mkF m 0 #[.val (.ref a0)] [] := by first | (simp [entryFrame, mkF, argsToLocals, Value.category]; done) | rfl
set_option maxRecDepth 65536 in
set_option maxHeartbeats 40000000 in
theorem rm4 (l : Launch) (Z : State) (aw : Array Value) (hw : ∀ d ∈ tables_1, d.before aw Z = true) {ws : List Jvm.Cond} (a0 : Addr) (w0 : Int32) (w1 : Int64) (w2 : Int64) (w3 : Int64) (w4 : Int64) (w5 : Int64) (h0 : Heap) (n0 : Nat) (Z0 : n0 ≤ h0.size) (F_a0_unplaced : Fld Z h0 a0 "com/example/slotwise/slotwise/Itc2007Score" "unplaced" "I" (.int w0)) (F_a0_conflicts : Fld Z h0 a0 "com/example/slotwise/slotwise/Itc2007Score" "conflicts" "J" (.long w1)) (F_a0_roomOccupancy : Fld Z h0 a0 "com/example/slotwise/slotwise/Itc2007Score" "roomOccupancy" "J" (.long w2)) (F_a0_periodUtilisation : Fld Z h0 a0 "com/example/slotwise/slotwise/Itc2007Score" "periodUtilisation" "J" (.long w3)) (F_a0_periodRelated : Fld Z h0 a0 "com/example/slotwise/slotwise/Itc2007Score" "periodRelated" "J" (.long w4)) (F_a0_roomRelated : Fld Z h0 a0 "com/example/slotwise/slotwise/Itc2007Score" "roomRelated" "J" (.long w5)) :
    own_Met l Z (⟨"com/example/slotwise/slotwise/Itc2007Score", "feasible", "()Z"⟩ : MethodName) prog_21_method_3_code 1 (some .boolean) ws ({ frames := 0, cells := 0, slots := 0, locals := 0 } : Room) #[(.ref a0)] h0 (own_Pq (some (.int (own_z (own_feas w0 w1 w2 w3 w4 w5)))) h0) := by
  refine own_body (plainFor_of_name pn_1) ?_
  intro p e s m below meth c s₁ hx hZ hby hml hown hnm hret hlk X0 e0
  replace hown : s.vm.findClass "com/example/slotwise/slotwise/Itc2007Score" = some m.cls := hown
  replace hml : c.maxLocals = 1 := hml
  obtain ⟨P, hP⟩ : ∃ P, P = own_P below s (own_Pq (some (.int (own_z (own_feas w0 w1 w2 w3 w4 w5)))) h0) ({ frames := 0, cells := 0, slots := 0, locals := 0 } : Room).cells ({ frames := 0, cells := 0, slots := 0, locals := 0 } : Room).slots := ⟨_, rfl⟩
  rw [← hP]
  refine own_cast (ef_4 m a0) ?_
  refine own_go (T' := s₁) (f' := (mkF m 1 #[.val (.ref a0)] [(.ref a0)])) (fun t kt => ?_) ?_
  · show Steps p.tables e below (s₁.setTop (mkF m 0 #[.val (.ref a0)] [])) t
    refine XS.aloadN X0.here hx rfl (hb hby d4_0) rfl rfl ?_
    show Steps p.tables e below (s₁.setTop (mkF m 1 #[.val (.ref a0)] [(.ref a0)])) t
    exact kt
  obtain ⟨T1, X1, e1, st1⟩ := getF X0 hx hZ hown (host := "") (Or.inl (hw _ (List.mem_of_getElem? (i := 15) rfl))) Via.refl e0 F_a0_unplaced (g := (mkF m 1 #[.val (.ref a0)] [(.ref a0)])) rfl rfl (hb hby d4_1)
  refine own_go st1 ?_
  by_cases hc4_2 : w0 = (0 : Int32)
  · refine own_go (T' := T1) (f' := (mkF m 8 #[.val (.ref a0)] [(.ref a0)])) (fun t kt => ?_) ?_
    · show Steps p.tables e below (T1.setTop (mkF m 4 #[.val (.ref a0)] [(.int w0)])) t
      refine XS.ifNo X1.here hx rfl (hb hby d4_4) rfl ((if0 _ _).trans (teq hc4_2).2) ?_
      show Steps p.tables e below (T1.setTop (mkF m 7 #[.val (.ref a0)] [])) t
      refine XS.aloadN X1.here hx rfl (hb hby d4_7) rfl rfl ?_
      show Steps p.tables e below (T1.setTop (mkF m 8 #[.val (.ref a0)] [(.ref a0)])) t
      exact kt
    obtain ⟨T3, X3, e3, st3⟩ := getF X1 hx hZ hown (host := "") (Or.inl (hw _ (List.mem_of_getElem? (i := 17) rfl))) Via.refl e1 F_a0_conflicts (g := (mkF m 8 #[.val (.ref a0)] [(.ref a0)])) rfl rfl (hb hby d4_8)
    refine own_go st3 ?_
    refine own_go (T' := T3) (f' := (mkF m 13 #[.val (.ref a0)] [(.int (lcmpW w1 (0 : Int64)))])) (fun t kt => ?_) ?_
    · show Steps p.tables e below (T3.setTop (mkF m 11 #[.val (.ref a0)] [(.long w1)])) t
      refine XS.lconst X3.here hx rfl (hb hby d4_11) ?_
      show Steps p.tables e below (T3.setTop (mkF m 12 #[.val (.ref a0)] [(.long (0 : Int64)), (.long w1)])) t
      refine XS.lcmp X3.here hx rfl (hb hby d4_12) rfl ?_
      show Steps p.tables e below (T3.setTop (mkF m 13 #[.val (.ref a0)] [(.int (lcmpW w1 (0 : Int64)))])) t
      exact kt
    by_cases hc13_4 : w1 = (0 : Int64)
    · refine own_go (T' := T3) (f' := (mkF m 17 #[.val (.ref a0)] [(.ref a0)])) (fun t kt => ?_) ?_
      · show Steps p.tables e below (T3.setTop (mkF m 13 #[.val (.ref a0)] [(.int (lcmpW w1 (0 : Int64)))])) t
        refine XS.ifNo X3.here hx rfl (hb hby d4_13) rfl (own_lN_ne hc13_4) ?_
        show Steps p.tables e below (T3.setTop (mkF m 16 #[.val (.ref a0)] [])) t
        refine XS.aloadN X3.here hx rfl (hb hby d4_16) rfl rfl ?_
        show Steps p.tables e below (T3.setTop (mkF m 17 #[.val (.ref a0)] [(.ref a0)])) t
        exact kt
      obtain ⟨T5, X5, e5, st5⟩ := getF X3 hx hZ hown (host := "") (Or.inl (hw _ (List.mem_of_getElem? (i := 19) rfl))) Via.refl e3 F_a0_roomOccupancy (g := (mkF m 17 #[.val (.ref a0)] [(.ref a0)])) rfl rfl (hb hby d4_17)
      refine own_go st5 ?_
      refine own_go (T' := T5) (f' := (mkF m 22 #[.val (.ref a0)] [(.int (lcmpW w2 (0 : Int64)))])) (fun t kt => ?_) ?_
      · show Steps p.tables e below (T5.setTop (mkF m 20 #[.val (.ref a0)] [(.long w2)])) t
        refine XS.lconst X5.here hx rfl (hb hby d4_20) ?_
        show Steps p.tables e below (T5.setTop (mkF m 21 #[.val (.ref a0)] [(.long (0 : Int64)), (.long w2)])) t
        refine XS.lcmp X5.here hx rfl (hb hby d4_21) rfl ?_
        show Steps p.tables e below (T5.setTop (mkF m 22 #[.val (.ref a0)] [(.int (lcmpW w2 (0 : Int64)))])) t
        exact kt
      by_cases hc22_6 : w2 = (0 : Int64)
      · refine own_go (T' := T5) (f' := (mkF m 26 #[.val (.ref a0)] [(.ref a0)])) (fun t kt => ?_) ?_
        · show Steps p.tables e below (T5.setTop (mkF m 22 #[.val (.ref a0)] [(.int (lcmpW w2 (0 : Int64)))])) t
          refine XS.ifNo X5.here hx rfl (hb hby d4_22) rfl (own_lN_ne hc22_6) ?_
          show Steps p.tables e below (T5.setTop (mkF m 25 #[.val (.ref a0)] [])) t
          refine XS.aloadN X5.here hx rfl (hb hby d4_25) rfl rfl ?_
          show Steps p.tables e below (T5.setTop (mkF m 26 #[.val (.ref a0)] [(.ref a0)])) t
          exact kt
        obtain ⟨T7, X7, e7, st7⟩ := getF X5 hx hZ hown (host := "") (Or.inl (hw _ (List.mem_of_getElem? (i := 21) rfl))) Via.refl e5 F_a0_periodUtilisation (g := (mkF m 26 #[.val (.ref a0)] [(.ref a0)])) rfl rfl (hb hby d4_26)
        refine own_go st7 ?_
        refine own_go (T' := T7) (f' := (mkF m 31 #[.val (.ref a0)] [(.int (lcmpW w3 (0 : Int64)))])) (fun t kt => ?_) ?_
        · show Steps p.tables e below (T7.setTop (mkF m 29 #[.val (.ref a0)] [(.long w3)])) t
          refine XS.lconst X7.here hx rfl (hb hby d4_29) ?_
          show Steps p.tables e below (T7.setTop (mkF m 30 #[.val (.ref a0)] [(.long (0 : Int64)), (.long w3)])) t
          refine XS.lcmp X7.here hx rfl (hb hby d4_30) rfl ?_
          show Steps p.tables e below (T7.setTop (mkF m 31 #[.val (.ref a0)] [(.int (lcmpW w3 (0 : Int64)))])) t
          exact kt
        by_cases hc31_8 : w3 = (0 : Int64)
        · refine own_go (T' := T7) (f' := (mkF m 35 #[.val (.ref a0)] [(.ref a0)])) (fun t kt => ?_) ?_
          · show Steps p.tables e below (T7.setTop (mkF m 31 #[.val (.ref a0)] [(.int (lcmpW w3 (0 : Int64)))])) t
            refine XS.ifNo X7.here hx rfl (hb hby d4_31) rfl (own_lN_ne hc31_8) ?_
            show Steps p.tables e below (T7.setTop (mkF m 34 #[.val (.ref a0)] [])) t
            refine XS.aloadN X7.here hx rfl (hb hby d4_34) rfl rfl ?_
            show Steps p.tables e below (T7.setTop (mkF m 35 #[.val (.ref a0)] [(.ref a0)])) t
            exact kt
          obtain ⟨T9, X9, e9, st9⟩ := getF X7 hx hZ hown (host := "") (Or.inl (hw _ (List.mem_of_getElem? (i := 23) rfl))) Via.refl e7 F_a0_periodRelated (g := (mkF m 35 #[.val (.ref a0)] [(.ref a0)])) rfl rfl (hb hby d4_35)
          refine own_go st9 ?_
          refine own_go (T' := T9) (f' := (mkF m 40 #[.val (.ref a0)] [(.int (lcmpW w4 (0 : Int64)))])) (fun t kt => ?_) ?_
          · show Steps p.tables e below (T9.setTop (mkF m 38 #[.val (.ref a0)] [(.long w4)])) t
            refine XS.lconst X9.here hx rfl (hb hby d4_38) ?_
            show Steps p.tables e below (T9.setTop (mkF m 39 #[.val (.ref a0)] [(.long (0 : Int64)), (.long w4)])) t
            refine XS.lcmp X9.here hx rfl (hb hby d4_39) rfl ?_
            show Steps p.tables e below (T9.setTop (mkF m 40 #[.val (.ref a0)] [(.int (lcmpW w4 (0 : Int64)))])) t
            exact kt
          by_cases hc40_10 : w4 = (0 : Int64)
          · refine own_go (T' := T9) (f' := (mkF m 44 #[.val (.ref a0)] [(.ref a0)])) (fun t kt => ?_) ?_
            · show Steps p.tables e below (T9.setTop (mkF m 40 #[.val (.ref a0)] [(.int (lcmpW w4 (0 : Int64)))])) t
              refine XS.ifNo X9.here hx rfl (hb hby d4_40) rfl (own_lN_ne hc40_10) ?_
              show Steps p.tables e below (T9.setTop (mkF m 43 #[.val (.ref a0)] [])) t
              refine XS.aloadN X9.here hx rfl (hb hby d4_43) rfl rfl ?_
              show Steps p.tables e below (T9.setTop (mkF m 44 #[.val (.ref a0)] [(.ref a0)])) t
              exact kt
            obtain ⟨T11, X11, e11, st11⟩ := getF X9 hx hZ hown (host := "") (Or.inl (hw _ (List.mem_of_getElem? (i := 25) rfl))) Via.refl e9 F_a0_roomRelated (g := (mkF m 44 #[.val (.ref a0)] [(.ref a0)])) rfl rfl (hb hby d4_44)
            refine own_go st11 ?_
            refine own_go (T' := T11) (f' := (mkF m 49 #[.val (.ref a0)] [(.int (lcmpW w5 (0 : Int64)))])) (fun t kt => ?_) ?_
            · show Steps p.tables e below (T11.setTop (mkF m 47 #[.val (.ref a0)] [(.long w5)])) t
              refine XS.lconst X11.here hx rfl (hb hby d4_47) ?_
              show Steps p.tables e below (T11.setTop (mkF m 48 #[.val (.ref a0)] [(.long (0 : Int64)), (.long w5)])) t
              refine XS.lcmp X11.here hx rfl (hb hby d4_48) rfl ?_
              show Steps p.tables e below (T11.setTop (mkF m 49 #[.val (.ref a0)] [(.int (lcmpW w5 (0 : Int64)))])) t
              exact kt
            by_cases hc49_12 : w5 = (0 : Int64)
            · refine own_go (T' := T11) (f' := (mkF m 57 #[.val (.ref a0)] [(.int (1 : Int32))])) (fun t kt => ?_) ?_
              · show Steps p.tables e below (T11.setTop (mkF m 49 #[.val (.ref a0)] [(.int (lcmpW w5 (0 : Int64)))])) t
                refine XS.ifNo X11.here hx rfl (hb hby d4_49) rfl (own_lN_ne hc49_12) ?_
                show Steps p.tables e below (T11.setTop (mkF m 52 #[.val (.ref a0)] [])) t
                refine XS.iconst X11.here hx rfl (hb hby d4_52) ?_
                show Steps p.tables e below (T11.setTop (mkF m 53 #[.val (.ref a0)] [(.int (1 : Int32))])) t
                refine XS.goto X11.here hx rfl (pc0 := 53) (pc' := 57) rfl (hb hby d4_53) (by decide) (by decide) ?_
                show Steps p.tables e below (T11.setTop (mkF m 57 #[.val (.ref a0)] [(.int (1 : Int32))])) t
                exact kt
              exact own_retN X11 hP hx hlk e11 (t := .boolean) hret (by simp) (hb hby d4_57) (by decide) (by decide) (z' := (1 : Int32)) (by decide) ⟨(congrArg (fun w => some (Value.int w)) (own_z_t (by simp [own_feas, hc4_2, hc13_4, hc22_6, hc31_8, hc40_10, hc49_12])).symm), rfl, rfl⟩
            · refine own_go (T' := T11) (f' := (mkF m 57 #[.val (.ref a0)] [(.int (0 : Int32))])) (fun t kt => ?_) ?_
              · show Steps p.tables e below (T11.setTop (mkF m 49 #[.val (.ref a0)] [(.int (lcmpW w5 (0 : Int64)))])) t
                refine XS.ifYes X11.here hx rfl (pc0 := 49) (pc' := 56) rfl (hb hby d4_49) rfl (own_lY_ne hc49_12) (by decide) (by decide) ?_
                show Steps p.tables e below (T11.setTop (mkF m 56 #[.val (.ref a0)] [])) t
                refine XS.iconst X11.here hx rfl (hb hby d4_56) ?_
                show Steps p.tables e below (T11.setTop (mkF m 57 #[.val (.ref a0)] [(.int (0 : Int32))])) t
                exact kt
              exact own_retN X11 hP hx hlk e11 (t := .boolean) hret (by simp) (hb hby d4_57) (by decide) (by decide) (z' := (0 : Int32)) (by decide) ⟨(congrArg (fun w => some (Value.int w)) (own_z_f (by simp [own_feas, hc4_2, hc13_4, hc22_6, hc31_8, hc40_10, hc49_12])).symm), rfl, rfl⟩
          · refine own_go (T' := T9) (f' := (mkF m 57 #[.val (.ref a0)] [(.int (0 : Int32))])) (fun t kt => ?_) ?_
            · show Steps p.tables e below (T9.setTop (mkF m 40 #[.val (.ref a0)] [(.int (lcmpW w4 (0 : Int64)))])) t
              refine XS.ifYes X9.here hx rfl (pc0 := 40) (pc' := 56) rfl (hb hby d4_40) rfl (own_lY_ne hc40_10) (by decide) (by decide) ?_
              show Steps p.tables e below (T9.setTop (mkF m 56 #[.val (.ref a0)] [])) t
              refine XS.iconst X9.here hx rfl (hb hby d4_56) ?_
              show Steps p.tables e below (T9.setTop (mkF m 57 #[.val (.ref a0)] [(.int (0 : Int32))])) t
              exact kt
            exact own_retN X9 hP hx hlk e9 (t := .boolean) hret (by simp) (hb hby d4_57) (by decide) (by decide) (z' := (0 : Int32)) (by decide) ⟨(congrArg (fun w => some (Value.int w)) (own_z_f (by simp [own_feas, hc4_2, hc13_4, hc22_6, hc31_8, hc40_10])).symm), rfl, rfl⟩
        · refine own_go (T' := T7) (f' := (mkF m 57 #[.val (.ref a0)] [(.int (0 : Int32))])) (fun t kt => ?_) ?_
          · show Steps p.tables e below (T7.setTop (mkF m 31 #[.val (.ref a0)] [(.int (lcmpW w3 (0 : Int64)))])) t
            refine XS.ifYes X7.here hx rfl (pc0 := 31) (pc' := 56) rfl (hb hby d4_31) rfl (own_lY_ne hc31_8) (by decide) (by decide) ?_
            show Steps p.tables e below (T7.setTop (mkF m 56 #[.val (.ref a0)] [])) t
            refine XS.iconst X7.here hx rfl (hb hby d4_56) ?_
            show Steps p.tables e below (T7.setTop (mkF m 57 #[.val (.ref a0)] [(.int (0 : Int32))])) t
            exact kt
          exact own_retN X7 hP hx hlk e7 (t := .boolean) hret (by simp) (hb hby d4_57) (by decide) (by decide) (z' := (0 : Int32)) (by decide) ⟨(congrArg (fun w => some (Value.int w)) (own_z_f (by simp [own_feas, hc4_2, hc13_4, hc22_6, hc31_8])).symm), rfl, rfl⟩
      · refine own_go (T' := T5) (f' := (mkF m 57 #[.val (.ref a0)] [(.int (0 : Int32))])) (fun t kt => ?_) ?_
        · show Steps p.tables e below (T5.setTop (mkF m 22 #[.val (.ref a0)] [(.int (lcmpW w2 (0 : Int64)))])) t
          refine XS.ifYes X5.here hx rfl (pc0 := 22) (pc' := 56) rfl (hb hby d4_22) rfl (own_lY_ne hc22_6) (by decide) (by decide) ?_
          show Steps p.tables e below (T5.setTop (mkF m 56 #[.val (.ref a0)] [])) t
          refine XS.iconst X5.here hx rfl (hb hby d4_56) ?_
          show Steps p.tables e below (T5.setTop (mkF m 57 #[.val (.ref a0)] [(.int (0 : Int32))])) t
          exact kt
        exact own_retN X5 hP hx hlk e5 (t := .boolean) hret (by simp) (hb hby d4_57) (by decide) (by decide) (z' := (0 : Int32)) (by decide) ⟨(congrArg (fun w => some (Value.int w)) (own_z_f (by simp [own_feas, hc4_2, hc13_4, hc22_6])).symm), rfl, rfl⟩
    · refine own_go (T' := T3) (f' := (mkF m 57 #[.val (.ref a0)] [(.int (0 : Int32))])) (fun t kt => ?_) ?_
      · show Steps p.tables e below (T3.setTop (mkF m 13 #[.val (.ref a0)] [(.int (lcmpW w1 (0 : Int64)))])) t
        refine XS.ifYes X3.here hx rfl (pc0 := 13) (pc' := 56) rfl (hb hby d4_13) rfl (own_lY_ne hc13_4) (by decide) (by decide) ?_
        show Steps p.tables e below (T3.setTop (mkF m 56 #[.val (.ref a0)] [])) t
        refine XS.iconst X3.here hx rfl (hb hby d4_56) ?_
        show Steps p.tables e below (T3.setTop (mkF m 57 #[.val (.ref a0)] [(.int (0 : Int32))])) t
        exact kt
      exact own_retN X3 hP hx hlk e3 (t := .boolean) hret (by simp) (hb hby d4_57) (by decide) (by decide) (z' := (0 : Int32)) (by decide) ⟨(congrArg (fun w => some (Value.int w)) (own_z_f (by simp [own_feas, hc4_2, hc13_4])).symm), rfl, rfl⟩
  · refine own_go (T' := T1) (f' := (mkF m 57 #[.val (.ref a0)] [(.int (0 : Int32))])) (fun t kt => ?_) ?_
    · show Steps p.tables e below (T1.setTop (mkF m 4 #[.val (.ref a0)] [(.int w0)])) t
      refine XS.ifYes X1.here hx rfl (pc0 := 4) (pc' := 56) rfl (hb hby d4_4) rfl ((if0 _ _).trans (feq hc4_2).2) (by decide) (by decide) ?_
      show Steps p.tables e below (T1.setTop (mkF m 56 #[.val (.ref a0)] [])) t
      refine XS.iconst X1.here hx rfl (hb hby d4_56) ?_
      show Steps p.tables e below (T1.setTop (mkF m 57 #[.val (.ref a0)] [(.int (0 : Int32))])) t
      exact kt
    exact own_retN X1 hP hx hlk e1 (t := .boolean) hret (by simp) (hb hby d4_57) (by decide) (by decide) (z' := (0 : Int32)) (by decide) ⟨(congrArg (fun w => some (Value.int w)) (own_z_f (by simp [own_feas, hc4_2])).symm), rfl, rfl⟩
theorem pd_1 : parseMethodDescriptor "(IJJJJJJJJJJJJ)V" = some ⟨[.int, .long, .long, .long, .long, .long, .long, .long, .long, .long, .long, .long, .long], none⟩ := by decide +kernel
theorem pd_2 : parseMethodDescriptor "()Z" = some ⟨[], some .boolean⟩ := by decide +kernel
theorem pn_2 : plainName "com/example/slotwise/slotwise/Itc2007ScoreFeasiblePinLaw" = true := by first | (simp [plainName, overriddenIn]; done) | decide +kernel
set_option maxRecDepth 65536 in
set_option maxHeartbeats 4000000 in
theorem ef_0 (m : MethodId) (p0 : Int32) (q1 : Int64) (q2 : Int64) (q3 : Int64) (q4 : Int64) (q5 : Int64) : entryFrame m #[(.int p0), (.long q1), (.long q2), (.long q3), (.long q4), (.long q5)] maxLocals = mkF m 0 #[.val (.int p0), .val (.long q1), .second, .val (.long q2), .second, .val (.long q3), .second, .val (.long q4), .second, .val (.long q5), .second, .unset, .unset, .unset, .unset, .unset, .unset, .unset, .unset, .unset, .unset, .unset, .unset, .unset, .unset, .unset] [] := by first | (simp [entryFrame, mkF, argsToLocals, Value.category, maxLocals]; done) | rfl
set_option maxRecDepth 65536 in
set_option maxHeartbeats 40000000 in
theorem rm0 (l : Launch) (Z : State) (aw : Array Value) (hw : ∀ d ∈ tables_1, d.before aw Z = true) {ws : List Jvm.Cond} (p0 : Int32) (q1 : Int64) (q2 : Int64) (q3 : Int64) (q4 : Int64) (q5 : Int64)  (h0 : Heap) (n0 : Nat) (Z0 : n0 ≤ h0.size)  :
    own_Met l Z x code maxLocals ret ws room_1 #[(.int p0), (.long q1), (.long q2), (.long q3), (.long q4), (.long q5)] h0 (fun v h L => v = some (.int 1) ∧ Fr n0 L) := by
  refine own_body (plainFor_of_name pn_2) ?_
  intro p e s m below meth c s₁ hx hZ hby hml hown hnm hret hlk X0 e0
  replace hown : s.vm.findClass "com/example/slotwise/slotwise/Itc2007ScoreFeasiblePinLaw" = some m.cls := hown
  replace hml : c.maxLocals = 26 := hml
  have N0 := Fr.nil n0
  have K0 := Keep.refl h0 []
  obtain ⟨P, hP⟩ : ∃ P, P = own_P below s (fun v h L => v = some (.int 1) ∧ Fr n0 L) room_1.cells room_1.slots := ⟨_, rfl⟩
  rw [← hP]
  refine own_cast (ef_0 m p0 q1 q2 q3 q4 q5) ?_
  have J88 : ∀ (Tj1 : State) (lj1 : List Loc) (v1 : Int32) (v2 : Int64) (v3 : Int64) (v4 : Int64) (v5 : Int64) (v6 : Int64) (Xj1 : Stand p l e room_1 s m #[(.int p0), (.long q1), (.long q2), (.long q3), (.long q4), (.long q5)] below meth c Tj1 lj1 0 0) (Nj1 : Fr n0 lj1) (ej1 : Tj1.heap = h0), own_End p e below P Tj1 (mkF m 88 #[.val (.int p0), .val (.long q1), .second, .val (.long q2), .second, .val (.long q3), .second, .val (.long q4), .second, .val (.long q5), .second, .val (.int v1), .val (.long v2), .second, .val (.long v3), .second, .val (.long v4), .second, .val (.long v5), .second, .val (.long v6), .second, .unset, .unset, .unset, .unset] []) := by
    intro Tj1 lj1 v1 v2 v3 v4 v5 v6 Xj1 Nj1 ej1
    obtain ⟨T2, h2, X2, e2, E2, A2, D2, U2, st2⟩ := newO Xj1 hx hZ hown (hw _ (List.mem_of_getElem? (i := 0) rfl)) (hw _ (List.mem_of_getElem? (i := 1) rfl)) (hw _ (List.mem_of_getElem? (i := 2) rfl)) ej1 (g := (mkF m 88 #[.val (.int p0), .val (.long q1), .second, .val (.long q2), .second, .val (.long q3), .second, .val (.long q4), .second, .val (.long q5), .second, .val (.int v1), .val (.long v2), .second, .val (.long v3), .second, .val (.long v4), .second, .val (.long v5), .second, .val (.long v6), .second, .unset, .unset, .unset, .unset] [])) rfl (hb hby at_88) (by decide) (by decide)
    obtain ⟨b2, y2⟩ : ∃ z, z = h0.size := ⟨_, rfl⟩
    rw [← y2] at A2 D2 U2 st2
    have g_b2 : n0 ≤ b2 := Nat.le_trans Z0 (Nat.le_of_eq y2.symm)
    have sz_b2 : h0.size ≤ b2 := Nat.le_trans K0.1 (Nat.le_of_eq y2.symm)
    have ZE2 : n0 ≤ h2.size := Nat.le_trans Z0 E2.1
    have KKE2 := K0.ext E2
    refine own_go st2 ?_
    have K_b2 := own_K_new U2
    refine own_go (T' := T2) (f' := (mkF m 119 #[.val (.int p0), .val (.long q1), .second, .val (.long q2), .second, .val (.long q3), .second, .val (.long q4), .second, .val (.long q5), .second, .val (.int v1), .val (.long v2), .second, .val (.long v3), .second, .val (.long v4), .second, .val (.long v5), .second, .val (.long v6), .second, .unset, .unset, .unset, .unset] [(.long (p0.toInt64)), (.long (q1 ^^^ (-1 : Int64))), (.long q5), (.long q4), (.long q3), (.long q2), (.long q1), (.long v6), (.long v5), (.long v4), (.long v3), (.long v2), (.int v1), (.ref b2), (.ref b2)])) (fun t kt => ?_) ?_
    · show Steps p.tables e below (T2.setTop (mkF m 91 #[.val (.int p0), .val (.long q1), .second, .val (.long q2), .second, .val (.long q3), .second, .val (.long q4), .second, .val (.long q5), .second, .val (.int v1), .val (.long v2), .second, .val (.long v3), .second, .val (.long v4), .second, .val (.long v5), .second, .val (.long v6), .second, .unset, .unset, .unset, .unset] [(.ref b2)])) t
      refine XS.dup X2.here hx rfl (hb hby at_91) rfl rfl ?_
      show Steps p.tables e below (T2.setTop (mkF m 92 #[.val (.int p0), .val (.long q1), .second, .val (.long q2), .second, .val (.long q3), .second, .val (.long q4), .second, .val (.long q5), .second, .val (.int v1), .val (.long v2), .second, .val (.long v3), .second, .val (.long v4), .second, .val (.long v5), .second, .val (.long v6), .second, .unset, .unset, .unset, .unset] [(.ref b2), (.ref b2)])) t
      refine XS.iload X2.here hx rfl (hb hby at_92) rfl ?_
      show Steps p.tables e below (T2.setTop (mkF m 94 #[.val (.int p0), .val (.long q1), .second, .val (.long q2), .second, .val (.long q3), .second, .val (.long q4), .second, .val (.long q5), .second, .val (.int v1), .val (.long v2), .second, .val (.long v3), .second, .val (.long v4), .second, .val (.long v5), .second, .val (.long v6), .second, .unset, .unset, .unset, .unset] [(.int v1), (.ref b2), (.ref b2)])) t
      refine XS.lload X2.here hx rfl (hb hby at_94) rfl ?_
      show Steps p.tables e below (T2.setTop (mkF m 96 #[.val (.int p0), .val (.long q1), .second, .val (.long q2), .second, .val (.long q3), .second, .val (.long q4), .second, .val (.long q5), .second, .val (.int v1), .val (.long v2), .second, .val (.long v3), .second, .val (.long v4), .second, .val (.long v5), .second, .val (.long v6), .second, .unset, .unset, .unset, .unset] [(.long v2), (.int v1), (.ref b2), (.ref b2)])) t
      refine XS.lload X2.here hx rfl (hb hby at_96) rfl ?_
      show Steps p.tables e below (T2.setTop (mkF m 98 #[.val (.int p0), .val (.long q1), .second, .val (.long q2), .second, .val (.long q3), .second, .val (.long q4), .second, .val (.long q5), .second, .val (.int v1), .val (.long v2), .second, .val (.long v3), .second, .val (.long v4), .second, .val (.long v5), .second, .val (.long v6), .second, .unset, .unset, .unset, .unset] [(.long v3), (.long v2), (.int v1), (.ref b2), (.ref b2)])) t
      refine XS.lload X2.here hx rfl (hb hby at_98) rfl ?_
      show Steps p.tables e below (T2.setTop (mkF m 100 #[.val (.int p0), .val (.long q1), .second, .val (.long q2), .second, .val (.long q3), .second, .val (.long q4), .second, .val (.long q5), .second, .val (.int v1), .val (.long v2), .second, .val (.long v3), .second, .val (.long v4), .second, .val (.long v5), .second, .val (.long v6), .second, .unset, .unset, .unset, .unset] [(.long v4), (.long v3), (.long v2), (.int v1), (.ref b2), (.ref b2)])) t
      refine XS.lload X2.here hx rfl (hb hby at_100) rfl ?_
      show Steps p.tables e below (T2.setTop (mkF m 102 #[.val (.int p0), .val (.long q1), .second, .val (.long q2), .second, .val (.long q3), .second, .val (.long q4), .second, .val (.long q5), .second, .val (.int v1), .val (.long v2), .second, .val (.long v3), .second, .val (.long v4), .second, .val (.long v5), .second, .val (.long v6), .second, .unset, .unset, .unset, .unset] [(.long v5), (.long v4), (.long v3), (.long v2), (.int v1), (.ref b2), (.ref b2)])) t
      refine XS.lload X2.here hx rfl (hb hby at_102) rfl ?_
      show Steps p.tables e below (T2.setTop (mkF m 104 #[.val (.int p0), .val (.long q1), .second, .val (.long q2), .second, .val (.long q3), .second, .val (.long q4), .second, .val (.long q5), .second, .val (.int v1), .val (.long v2), .second, .val (.long v3), .second, .val (.long v4), .second, .val (.long v5), .second, .val (.long v6), .second, .unset, .unset, .unset, .unset] [(.long v6), (.long v5), (.long v4), (.long v3), (.long v2), (.int v1), (.ref b2), (.ref b2)])) t
      refine XS.lloadN X2.here hx rfl (hb hby at_104) rfl ?_
      show Steps p.tables e below (T2.setTop (mkF m 105 #[.val (.int p0), .val (.long q1), .second, .val (.long q2), .second, .val (.long q3), .second, .val (.long q4), .second, .val (.long q5), .second, .val (.int v1), .val (.long v2), .second, .val (.long v3), .second, .val (.long v4), .second, .val (.long v5), .second, .val (.long v6), .second, .unset, .unset, .unset, .unset] [(.long q1), (.long v6), (.long v5), (.long v4), (.long v3), (.long v2), (.int v1), (.ref b2), (.ref b2)])) t
      refine XS.lloadN X2.here hx rfl (hb hby at_105) rfl ?_
      show Steps p.tables e below (T2.setTop (mkF m 106 #[.val (.int p0), .val (.long q1), .second, .val (.long q2), .second, .val (.long q3), .second, .val (.long q4), .second, .val (.long q5), .second, .val (.int v1), .val (.long v2), .second, .val (.long v3), .second, .val (.long v4), .second, .val (.long v5), .second, .val (.long v6), .second, .unset, .unset, .unset, .unset] [(.long q2), (.long q1), (.long v6), (.long v5), (.long v4), (.long v3), (.long v2), (.int v1), (.ref b2), (.ref b2)])) t
      refine XS.lload X2.here hx rfl (hb hby at_106) rfl ?_
      show Steps p.tables e below (T2.setTop (mkF m 108 #[.val (.int p0), .val (.long q1), .second, .val (.long q2), .second, .val (.long q3), .second, .val (.long q4), .second, .val (.long q5), .second, .val (.int v1), .val (.long v2), .second, .val (.long v3), .second, .val (.long v4), .second, .val (.long v5), .second, .val (.long v6), .second, .unset, .unset, .unset, .unset] [(.long q3), (.long q2), (.long q1), (.long v6), (.long v5), (.long v4), (.long v3), (.long v2), (.int v1), (.ref b2), (.ref b2)])) t
      refine XS.lload X2.here hx rfl (hb hby at_108) rfl ?_
      show Steps p.tables e below (T2.setTop (mkF m 110 #[.val (.int p0), .val (.long q1), .second, .val (.long q2), .second, .val (.long q3), .second, .val (.long q4), .second, .val (.long q5), .second, .val (.int v1), .val (.long v2), .second, .val (.long v3), .second, .val (.long v4), .second, .val (.long v5), .second, .val (.long v6), .second, .unset, .unset, .unset, .unset] [(.long q4), (.long q3), (.long q2), (.long q1), (.long v6), (.long v5), (.long v4), (.long v3), (.long v2), (.int v1), (.ref b2), (.ref b2)])) t
      refine XS.lload X2.here hx rfl (hb hby at_110) rfl ?_
      show Steps p.tables e below (T2.setTop (mkF m 112 #[.val (.int p0), .val (.long q1), .second, .val (.long q2), .second, .val (.long q3), .second, .val (.long q4), .second, .val (.long q5), .second, .val (.int v1), .val (.long v2), .second, .val (.long v3), .second, .val (.long v4), .second, .val (.long v5), .second, .val (.long v6), .second, .unset, .unset, .unset, .unset] [(.long q5), (.long q4), (.long q3), (.long q2), (.long q1), (.long v6), (.long v5), (.long v4), (.long v3), (.long v2), (.int v1), (.ref b2), (.ref b2)])) t
      refine XS.lloadN X2.here hx rfl (hb hby at_112) rfl ?_
      show Steps p.tables e below (T2.setTop (mkF m 113 #[.val (.int p0), .val (.long q1), .second, .val (.long q2), .second, .val (.long q3), .second, .val (.long q4), .second, .val (.long q5), .second, .val (.int v1), .val (.long v2), .second, .val (.long v3), .second, .val (.long v4), .second, .val (.long v5), .second, .val (.long v6), .second, .unset, .unset, .unset, .unset] [(.long q1), (.long q5), (.long q4), (.long q3), (.long q2), (.long q1), (.long v6), (.long v5), (.long v4), (.long v3), (.long v2), (.int v1), (.ref b2), (.ref b2)])) t
      refine X2.ldc2Long hx hown (mvT hZ (hw _ (List.mem_of_getElem? (i := 3) rfl))) (g := (mkF m 113 #[.val (.int p0), .val (.long q1), .second, .val (.long q2), .second, .val (.long q3), .second, .val (.long q4), .second, .val (.long q5), .second, .val (.int v1), .val (.long v2), .second, .val (.long v3), .second, .val (.long v4), .second, .val (.long v5), .second, .val (.long v6), .second, .unset, .unset, .unset, .unset] [(.long q1), (.long q5), (.long q4), (.long q3), (.long q2), (.long q1), (.long v6), (.long v5), (.long v4), (.long v3), (.long v2), (.int v1), (.ref b2), (.ref b2)])) rfl (hb hby at_113) _ ?_
      show Steps p.tables e below (T2.setTop (mkF m 116 #[.val (.int p0), .val (.long q1), .second, .val (.long q2), .second, .val (.long q3), .second, .val (.long q4), .second, .val (.long q5), .second, .val (.int v1), .val (.long v2), .second, .val (.long v3), .second, .val (.long v4), .second, .val (.long v5), .second, .val (.long v6), .second, .unset, .unset, .unset, .unset] [(.long (-1 : Int64)), (.long q1), (.long q5), (.long q4), (.long q3), (.long q2), (.long q1), (.long v6), (.long v5), (.long v4), (.long v3), (.long v2), (.int v1), (.ref b2), (.ref b2)])) t
      refine XS.lxor X2.here hx rfl (hb hby at_116) rfl ?_
      show Steps p.tables e below (T2.setTop (mkF m 117 #[.val (.int p0), .val (.long q1), .second, .val (.long q2), .second, .val (.long q3), .second, .val (.long q4), .second, .val (.long q5), .second, .val (.int v1), .val (.long v2), .second, .val (.long v3), .second, .val (.long v4), .second, .val (.long v5), .second, .val (.long v6), .second, .unset, .unset, .unset, .unset] [(.long (q1 ^^^ (-1 : Int64))), (.long q5), (.long q4), (.long q3), (.long q2), (.long q1), (.long v6), (.long v5), (.long v4), (.long v3), (.long v2), (.int v1), (.ref b2), (.ref b2)])) t
      refine XS.iloadN X2.here hx rfl (hb hby at_117) rfl ?_
      show Steps p.tables e below (T2.setTop (mkF m 118 #[.val (.int p0), .val (.long q1), .second, .val (.long q2), .second, .val (.long q3), .second, .val (.long q4), .second, .val (.long q5), .second, .val (.int v1), .val (.long v2), .second, .val (.long v3), .second, .val (.long v4), .second, .val (.long v5), .second, .val (.long v6), .second, .unset, .unset, .unset, .unset] [(.int p0), (.long (q1 ^^^ (-1 : Int64))), (.long q5), (.long q4), (.long q3), (.long q2), (.long q1), (.long v6), (.long v5), (.long v4), (.long v3), (.long v2), (.int v1), (.ref b2), (.ref b2)])) t
      refine XS.i2l X2.here hx rfl (hb hby at_118) rfl ?_
      show Steps p.tables e below (T2.setTop (mkF m 119 #[.val (.int p0), .val (.long q1), .second, .val (.long q2), .second, .val (.long q3), .second, .val (.long q4), .second, .val (.long q5), .second, .val (.int v1), .val (.long v2), .second, .val (.long v3), .second, .val (.long v4), .second, .val (.long v5), .second, .val (.long v6), .second, .unset, .unset, .unset, .unset] [(.long (p0.toInt64)), (.long (q1 ^^^ (-1 : Int64))), (.long q5), (.long q4), (.long q3), (.long q2), (.long q1), (.long v6), (.long v5), (.long v4), (.long v3), (.long v2), (.int v1), (.ref b2), (.ref b2)])) t
      exact kt
    refine own_callC X2 hx hZ hown e2 rfl (hw _ (List.mem_of_getElem? (i := 4) rfl)) (hw _ (List.mem_of_getElem? (i := 5) rfl)) (hw _ (List.mem_of_getElem? (i := 2) rfl)) (hw _ (List.mem_of_getElem? (i := 6) rfl)) (by decide) (rm1 l Z aw hw b2 v1 v2 v3 v4 v5 v6 q1 q2 q3 q4 q5 (q1 ^^^ (-1 : Int64)) (p0.toInt64) h2 n0 ZE2 A2 K_b2 g_b2) (g := (mkF m 119 #[.val (.int p0), .val (.long q1), .second, .val (.long q2), .second, .val (.long q3), .second, .val (.long q4), .second, .val (.long q5), .second, .val (.int v1), .val (.long v2), .second, .val (.long v3), .second, .val (.long v4), .second, .val (.long v5), .second, .val (.long v6), .second, .unset, .unset, .unset, .unset] [(.long (p0.toInt64)), (.long (q1 ^^^ (-1 : Int64))), (.long q5), (.long q4), (.long q3), (.long q2), (.long q1), (.long v6), (.long v5), (.long v4), (.long v3), (.long v2), (.int v1), (.ref b2), (.ref b2)])) rfl (by rw [hml]; rfl) (argsL := [(.int v1), (.long v2), (.long v3), (.long v4), (.long v5), (.long v6), (.long q1), (.long q2), (.long q3), (.long q4), (.long q5), (.long (q1 ^^^ (-1 : Int64))), (.long (p0.toInt64))]) (rest := [(.ref b2)]) (lenOf pd_1 rfl) rfl rfl (W := 1) (by show 2 * 0 + _ ≤ _; exact Nat.le_of_eq rfl) (hb hby at_119) (by decide) (by decide) (by decide) (by decide) ?_
    rintro _ T3 L3 X3 ⟨rfl, Nq3, Kq3, Pq3_0, Pq3_1, Pq3_2, Pq3_3, Pq3_4, Pq3_5, Pq3_6, Pq3_7, Pq3_8, Pq3_9, Pq3_10, Pq3_11, Pq3_12, Pq3_13⟩
    have N3 := Fr.app Nj1 Nq3
    replace A2 := (A2.keep Kq3)
    replace K_b2 := own_K_keep K_b2 Kq3
    have ZKq3 : n0 ≤ T3.heap.size := Nat.le_trans ZE2 Kq3.1
    have KKKq3 := KKE2.trans Kq3 ((allS (Or.inr sz_b2) all0))
    refine own_go (T' := T3) (f' := (mkF m 142 #[.val (.int p0), .val (.long q1), .second, .val (.long q2), .second, .val (.long q3), .second, .val (.long q4), .second, .val (.long q5), .second, .val (.int v1), .val (.long v2), .second, .val (.long v3), .second, .val (.long v4), .second, .val (.long v5), .second, .val (.long v6), .second, .val (.ref b2), .unset, .unset, .unset] [(.long ((((((v1.toInt64) ||| v2) ||| v3) ||| v4) ||| v5) ||| v6))])) (fun t kt => ?_) ?_
    · show Steps p.tables e below (T3.setTop (mkF m 122 #[.val (.int p0), .val (.long q1), .second, .val (.long q2), .second, .val (.long q3), .second, .val (.long q4), .second, .val (.long q5), .second, .val (.int v1), .val (.long v2), .second, .val (.long v3), .second, .val (.long v4), .second, .val (.long v5), .second, .val (.long v6), .second, .unset, .unset, .unset, .unset] [(.ref b2)])) t
      refine XS.astore X3.here hx rfl (hb hby at_122) rfl rfl (l' := #[.val (.int p0), .val (.long q1), .second, .val (.long q2), .second, .val (.long q3), .second, .val (.long q4), .second, .val (.long q5), .second, .val (.int v1), .val (.long v2), .second, .val (.long v3), .second, .val (.long v4), .second, .val (.long v5), .second, .val (.long v6), .second, .val (.ref b2), .unset, .unset, .unset]) rfl ?_
      show Steps p.tables e below (T3.setTop (mkF m 124 #[.val (.int p0), .val (.long q1), .second, .val (.long q2), .second, .val (.long q3), .second, .val (.long q4), .second, .val (.long q5), .second, .val (.int v1), .val (.long v2), .second, .val (.long v3), .second, .val (.long v4), .second, .val (.long v5), .second, .val (.long v6), .second, .val (.ref b2), .unset, .unset, .unset] [])) t
      refine XS.iload X3.here hx rfl (hb hby at_124) rfl ?_
      show Steps p.tables e below (T3.setTop (mkF m 126 #[.val (.int p0), .val (.long q1), .second, .val (.long q2), .second, .val (.long q3), .second, .val (.long q4), .second, .val (.long q5), .second, .val (.int v1), .val (.long v2), .second, .val (.long v3), .second, .val (.long v4), .second, .val (.long v5), .second, .val (.long v6), .second, .val (.ref b2), .unset, .unset, .unset] [(.int v1)])) t
      refine XS.i2l X3.here hx rfl (hb hby at_126) rfl ?_
      show Steps p.tables e below (T3.setTop (mkF m 127 #[.val (.int p0), .val (.long q1), .second, .val (.long q2), .second, .val (.long q3), .second, .val (.long q4), .second, .val (.long q5), .second, .val (.int v1), .val (.long v2), .second, .val (.long v3), .second, .val (.long v4), .second, .val (.long v5), .second, .val (.long v6), .second, .val (.ref b2), .unset, .unset, .unset] [(.long (v1.toInt64))])) t
      refine XS.lload X3.here hx rfl (hb hby at_127) rfl ?_
      show Steps p.tables e below (T3.setTop (mkF m 129 #[.val (.int p0), .val (.long q1), .second, .val (.long q2), .second, .val (.long q3), .second, .val (.long q4), .second, .val (.long q5), .second, .val (.int v1), .val (.long v2), .second, .val (.long v3), .second, .val (.long v4), .second, .val (.long v5), .second, .val (.long v6), .second, .val (.ref b2), .unset, .unset, .unset] [(.long v2), (.long (v1.toInt64))])) t
      refine XS.lor X3.here hx rfl (hb hby at_129) rfl ?_
      show Steps p.tables e below (T3.setTop (mkF m 130 #[.val (.int p0), .val (.long q1), .second, .val (.long q2), .second, .val (.long q3), .second, .val (.long q4), .second, .val (.long q5), .second, .val (.int v1), .val (.long v2), .second, .val (.long v3), .second, .val (.long v4), .second, .val (.long v5), .second, .val (.long v6), .second, .val (.ref b2), .unset, .unset, .unset] [(.long ((v1.toInt64) ||| v2))])) t
      refine XS.lload X3.here hx rfl (hb hby at_130) rfl ?_
      show Steps p.tables e below (T3.setTop (mkF m 132 #[.val (.int p0), .val (.long q1), .second, .val (.long q2), .second, .val (.long q3), .second, .val (.long q4), .second, .val (.long q5), .second, .val (.int v1), .val (.long v2), .second, .val (.long v3), .second, .val (.long v4), .second, .val (.long v5), .second, .val (.long v6), .second, .val (.ref b2), .unset, .unset, .unset] [(.long v3), (.long ((v1.toInt64) ||| v2))])) t
      refine XS.lor X3.here hx rfl (hb hby at_132) rfl ?_
      show Steps p.tables e below (T3.setTop (mkF m 133 #[.val (.int p0), .val (.long q1), .second, .val (.long q2), .second, .val (.long q3), .second, .val (.long q4), .second, .val (.long q5), .second, .val (.int v1), .val (.long v2), .second, .val (.long v3), .second, .val (.long v4), .second, .val (.long v5), .second, .val (.long v6), .second, .val (.ref b2), .unset, .unset, .unset] [(.long (((v1.toInt64) ||| v2) ||| v3))])) t
      refine XS.lload X3.here hx rfl (hb hby at_133) rfl ?_
      show Steps p.tables e below (T3.setTop (mkF m 135 #[.val (.int p0), .val (.long q1), .second, .val (.long q2), .second, .val (.long q3), .second, .val (.long q4), .second, .val (.long q5), .second, .val (.int v1), .val (.long v2), .second, .val (.long v3), .second, .val (.long v4), .second, .val (.long v5), .second, .val (.long v6), .second, .val (.ref b2), .unset, .unset, .unset] [(.long v4), (.long (((v1.toInt64) ||| v2) ||| v3))])) t
      refine XS.lor X3.here hx rfl (hb hby at_135) rfl ?_
      show Steps p.tables e below (T3.setTop (mkF m 136 #[.val (.int p0), .val (.long q1), .second, .val (.long q2), .second, .val (.long q3), .second, .val (.long q4), .second, .val (.long q5), .second, .val (.int v1), .val (.long v2), .second, .val (.long v3), .second, .val (.long v4), .second, .val (.long v5), .second, .val (.long v6), .second, .val (.ref b2), .unset, .unset, .unset] [(.long ((((v1.toInt64) ||| v2) ||| v3) ||| v4))])) t
      refine XS.lload X3.here hx rfl (hb hby at_136) rfl ?_
      show Steps p.tables e below (T3.setTop (mkF m 138 #[.val (.int p0), .val (.long q1), .second, .val (.long q2), .second, .val (.long q3), .second, .val (.long q4), .second, .val (.long q5), .second, .val (.int v1), .val (.long v2), .second, .val (.long v3), .second, .val (.long v4), .second, .val (.long v5), .second, .val (.long v6), .second, .val (.ref b2), .unset, .unset, .unset] [(.long v5), (.long ((((v1.toInt64) ||| v2) ||| v3) ||| v4))])) t
      refine XS.lor X3.here hx rfl (hb hby at_138) rfl ?_
      show Steps p.tables e below (T3.setTop (mkF m 139 #[.val (.int p0), .val (.long q1), .second, .val (.long q2), .second, .val (.long q3), .second, .val (.long q4), .second, .val (.long q5), .second, .val (.int v1), .val (.long v2), .second, .val (.long v3), .second, .val (.long v4), .second, .val (.long v5), .second, .val (.long v6), .second, .val (.ref b2), .unset, .unset, .unset] [(.long (((((v1.toInt64) ||| v2) ||| v3) ||| v4) ||| v5))])) t
      refine XS.lload X3.here hx rfl (hb hby at_139) rfl ?_
      show Steps p.tables e below (T3.setTop (mkF m 141 #[.val (.int p0), .val (.long q1), .second, .val (.long q2), .second, .val (.long q3), .second, .val (.long q4), .second, .val (.long q5), .second, .val (.int v1), .val (.long v2), .second, .val (.long v3), .second, .val (.long v4), .second, .val (.long v5), .second, .val (.long v6), .second, .val (.ref b2), .unset, .unset, .unset] [(.long v6), (.long (((((v1.toInt64) ||| v2) ||| v3) ||| v4) ||| v5))])) t
      refine XS.lor X3.here hx rfl (hb hby at_141) rfl ?_
      show Steps p.tables e below (T3.setTop (mkF m 142 #[.val (.int p0), .val (.long q1), .second, .val (.long q2), .second, .val (.long q3), .second, .val (.long q4), .second, .val (.long q5), .second, .val (.int v1), .val (.long v2), .second, .val (.long v3), .second, .val (.long v4), .second, .val (.long v5), .second, .val (.long v6), .second, .val (.ref b2), .unset, .unset, .unset] [(.long ((((((v1.toInt64) ||| v2) ||| v3) ||| v4) ||| v5) ||| v6))])) t
      exact kt
    obtain ⟨hard, hhard⟩ : ∃ z, z = ((((((v1.toInt64) ||| v2) ||| v3) ||| v4) ||| v5) ||| v6) := ⟨_, rfl⟩
    rw [← hhard]
    refine own_go (T' := T3) (f' := (mkF m 148 #[.val (.int p0), .val (.long q1), .second, .val (.long q2), .second, .val (.long q3), .second, .val (.long q4), .second, .val (.long q5), .second, .val (.int v1), .val (.long v2), .second, .val (.long v3), .second, .val (.long v4), .second, .val (.long v5), .second, .val (.long v6), .second, .val (.ref b2), .val (.long hard), .second, .unset] [(.int (lcmpW hard (0 : Int64)))])) (fun t kt => ?_) ?_
    · show Steps p.tables e below (T3.setTop (mkF m 142 #[.val (.int p0), .val (.long q1), .second, .val (.long q2), .second, .val (.long q3), .second, .val (.long q4), .second, .val (.long q5), .second, .val (.int v1), .val (.long v2), .second, .val (.long v3), .second, .val (.long v4), .second, .val (.long v5), .second, .val (.long v6), .second, .val (.ref b2), .unset, .unset, .unset] [(.long hard)])) t
      refine XS.lstore X3.here hx rfl (hb hby at_142) rfl (l' := #[.val (.int p0), .val (.long q1), .second, .val (.long q2), .second, .val (.long q3), .second, .val (.long q4), .second, .val (.long q5), .second, .val (.int v1), .val (.long v2), .second, .val (.long v3), .second, .val (.long v4), .second, .val (.long v5), .second, .val (.long v6), .second, .val (.ref b2), .val (.long hard), .second, .unset]) rfl ?_
      show Steps p.tables e below (T3.setTop (mkF m 144 #[.val (.int p0), .val (.long q1), .second, .val (.long q2), .second, .val (.long q3), .second, .val (.long q4), .second, .val (.long q5), .second, .val (.int v1), .val (.long v2), .second, .val (.long v3), .second, .val (.long v4), .second, .val (.long v5), .second, .val (.long v6), .second, .val (.ref b2), .val (.long hard), .second, .unset] [])) t
      refine XS.lload X3.here hx rfl (hb hby at_144) rfl ?_
      show Steps p.tables e below (T3.setTop (mkF m 146 #[.val (.int p0), .val (.long q1), .second, .val (.long q2), .second, .val (.long q3), .second, .val (.long q4), .second, .val (.long q5), .second, .val (.int v1), .val (.long v2), .second, .val (.long v3), .second, .val (.long v4), .second, .val (.long v5), .second, .val (.long v6), .second, .val (.ref b2), .val (.long hard), .second, .unset] [(.long hard)])) t
      refine XS.lconst X3.here hx rfl (hb hby at_146) ?_
      show Steps p.tables e below (T3.setTop (mkF m 147 #[.val (.int p0), .val (.long q1), .second, .val (.long q2), .second, .val (.long q3), .second, .val (.long q4), .second, .val (.long q5), .second, .val (.int v1), .val (.long v2), .second, .val (.long v3), .second, .val (.long v4), .second, .val (.long v5), .second, .val (.long v6), .second, .val (.ref b2), .val (.long hard), .second, .unset] [(.long (0 : Int64)), (.long hard)])) t
      refine XS.lcmp X3.here hx rfl (hb hby at_147) rfl ?_
      show Steps p.tables e below (T3.setTop (mkF m 148 #[.val (.int p0), .val (.long q1), .second, .val (.long q2), .second, .val (.long q3), .second, .val (.long q4), .second, .val (.long q5), .second, .val (.int v1), .val (.long v2), .second, .val (.long v3), .second, .val (.long v4), .second, .val (.long v5), .second, .val (.long v6), .second, .val (.ref b2), .val (.long hard), .second, .unset] [(.int (lcmpW hard (0 : Int64)))])) t
      exact kt
    by_cases hc148_4 : hard = (0 : Int64)
    · refine own_go (T' := T3) (f' := (mkF m 160 #[.val (.int p0), .val (.long q1), .second, .val (.long q2), .second, .val (.long q3), .second, .val (.long q4), .second, .val (.long q5), .second, .val (.int v1), .val (.long v2), .second, .val (.long v3), .second, .val (.long v4), .second, .val (.long v5), .second, .val (.long v6), .second, .val (.ref b2), .val (.long hard), .second, .val (.int (1 : Int32))] [(.ref b2)])) (fun t kt => ?_) ?_
      · show Steps p.tables e below (T3.setTop (mkF m 148 #[.val (.int p0), .val (.long q1), .second, .val (.long q2), .second, .val (.long q3), .second, .val (.long q4), .second, .val (.long q5), .second, .val (.int v1), .val (.long v2), .second, .val (.long v3), .second, .val (.long v4), .second, .val (.long v5), .second, .val (.long v6), .second, .val (.ref b2), .val (.long hard), .second, .unset] [(.int (lcmpW hard (0 : Int64)))])) t
        refine XS.ifNo X3.here hx rfl (hb hby at_148) rfl (own_lN_ne hc148_4) ?_
        show Steps p.tables e below (T3.setTop (mkF m 151 #[.val (.int p0), .val (.long q1), .second, .val (.long q2), .second, .val (.long q3), .second, .val (.long q4), .second, .val (.long q5), .second, .val (.int v1), .val (.long v2), .second, .val (.long v3), .second, .val (.long v4), .second, .val (.long v5), .second, .val (.long v6), .second, .val (.ref b2), .val (.long hard), .second, .unset] [])) t
        refine XS.iconst X3.here hx rfl (hb hby at_151) ?_
        show Steps p.tables e below (T3.setTop (mkF m 152 #[.val (.int p0), .val (.long q1), .second, .val (.long q2), .second, .val (.long q3), .second, .val (.long q4), .second, .val (.long q5), .second, .val (.int v1), .val (.long v2), .second, .val (.long v3), .second, .val (.long v4), .second, .val (.long v5), .second, .val (.long v6), .second, .val (.ref b2), .val (.long hard), .second, .unset] [(.int (1 : Int32))])) t
        refine XS.goto X3.here hx rfl (pc0 := 152) (pc' := 156) rfl (hb hby at_152) (by decide) (by decide) ?_
        show Steps p.tables e below (T3.setTop (mkF m 156 #[.val (.int p0), .val (.long q1), .second, .val (.long q2), .second, .val (.long q3), .second, .val (.long q4), .second, .val (.long q5), .second, .val (.int v1), .val (.long v2), .second, .val (.long v3), .second, .val (.long v4), .second, .val (.long v5), .second, .val (.long v6), .second, .val (.ref b2), .val (.long hard), .second, .unset] [(.int (1 : Int32))])) t
        refine XS.istore X3.here hx rfl (hb hby at_156) rfl (l' := #[.val (.int p0), .val (.long q1), .second, .val (.long q2), .second, .val (.long q3), .second, .val (.long q4), .second, .val (.long q5), .second, .val (.int v1), .val (.long v2), .second, .val (.long v3), .second, .val (.long v4), .second, .val (.long v5), .second, .val (.long v6), .second, .val (.ref b2), .val (.long hard), .second, .val (.int (1 : Int32))]) rfl ?_
        show Steps p.tables e below (T3.setTop (mkF m 158 #[.val (.int p0), .val (.long q1), .second, .val (.long q2), .second, .val (.long q3), .second, .val (.long q4), .second, .val (.long q5), .second, .val (.int v1), .val (.long v2), .second, .val (.long v3), .second, .val (.long v4), .second, .val (.long v5), .second, .val (.long v6), .second, .val (.ref b2), .val (.long hard), .second, .val (.int (1 : Int32))] [])) t
        refine XS.aload X3.here hx rfl (hb hby at_158) rfl rfl ?_
        show Steps p.tables e below (T3.setTop (mkF m 160 #[.val (.int p0), .val (.long q1), .second, .val (.long q2), .second, .val (.long q3), .second, .val (.long q4), .second, .val (.long q5), .second, .val (.int v1), .val (.long v2), .second, .val (.long v3), .second, .val (.long v4), .second, .val (.long v5), .second, .val (.long v6), .second, .val (.ref b2), .val (.long hard), .second, .val (.int (1 : Int32))] [(.ref b2)])) t
        exact kt
      refine own_callVp X3 hx hZ hown rfl (hw _ (List.mem_of_getElem? (i := 41) rfl)) (hw _ (List.mem_of_getElem? (i := 42) rfl)) (notFace_of_selects (args := #[]) (mvT hZ (hw _ (List.mem_of_getElem? (i := 44) rfl)))) (hw _ (List.mem_of_getElem? (i := 44) rfl)) (hw _ (List.mem_of_getElem? (i := 43) rfl)) (hw _ (List.mem_of_getElem? (i := 2) rfl)) (hw _ (List.mem_of_getElem? (i := 45) rfl)) (by decide) (rm4 l Z aw hw b2 v1 v2 v3 v4 v5 v6 T3.heap n0 ZKq3 Pq3_1 Pq3_2 Pq3_3 Pq3_4 Pq3_5 Pq3_6) Pq3_0 (g := (mkF m 160 #[.val (.int p0), .val (.long q1), .second, .val (.long q2), .second, .val (.long q3), .second, .val (.long q4), .second, .val (.long q5), .second, .val (.int v1), .val (.long v2), .second, .val (.long v3), .second, .val (.long v4), .second, .val (.long v5), .second, .val (.long v6), .second, .val (.ref b2), .val (.long hard), .second, .val (.int (1 : Int32))] [(.ref b2)])) rfl (by rw [hml]; rfl) (argsL := []) (rest := []) (lenOf pd_2 rfl) rfl rfl (W := 0) (by show 2 * 0 + _ ≤ _; exact Nat.le_of_eq rfl) (hb hby at_160) (by decide) (by decide) (by decide) (by decide) ?_
      intro T5 X5 e5
      refine own_go (T' := T5) (f' := (mkF m 173 #[.val (.int p0), .val (.long q1), .second, .val (.long q2), .second, .val (.long q3), .second, .val (.long q4), .second, .val (.long q5), .second, .val (.int v1), .val (.long v2), .second, .val (.long v3), .second, .val (.long v4), .second, .val (.long v5), .second, .val (.long v6), .second, .val (.ref b2), .val (.long hard), .second, .val (.int (1 : Int32))] [(.int (1 : Int32))])) (fun t kt => ?_) ?_
      · show Steps p.tables e below (T5.setTop (mkF m 163 #[.val (.int p0), .val (.long q1), .second, .val (.long q2), .second, .val (.long q3), .second, .val (.long q4), .second, .val (.long q5), .second, .val (.int v1), .val (.long v2), .second, .val (.long v3), .second, .val (.long v4), .second, .val (.long v5), .second, .val (.long v6), .second, .val (.ref b2), .val (.long hard), .second, .val (.int (1 : Int32))] [(.int (own_z (own_feas v1 v2 v3 v4 v5 v6)))])) t
        refine XS.iload X5.here hx rfl (hb hby at_163) rfl ?_
        show Steps p.tables e below (T5.setTop (mkF m 165 #[.val (.int p0), .val (.long q1), .second, .val (.long q2), .second, .val (.long q3), .second, .val (.long q4), .second, .val (.long q5), .second, .val (.int v1), .val (.long v2), .second, .val (.long v3), .second, .val (.long v4), .second, .val (.long v5), .second, .val (.long v6), .second, .val (.ref b2), .val (.long hard), .second, .val (.int (1 : Int32))] [(.int (1 : Int32)), (.int (own_z (own_feas v1 v2 v3 v4 v5 v6)))])) t
        refine XS.icmpNo X5.here hx rfl (hb hby at_165) rfl (teq (show (own_z (own_feas v1 v2 v3 v4 v5 v6)) = (1 : Int32) from (own_fe hhard).trans (own_z_t hc148_4))).2 ?_
        show Steps p.tables e below (T5.setTop (mkF m 168 #[.val (.int p0), .val (.long q1), .second, .val (.long q2), .second, .val (.long q3), .second, .val (.long q4), .second, .val (.long q5), .second, .val (.int v1), .val (.long v2), .second, .val (.long v3), .second, .val (.long v4), .second, .val (.long v5), .second, .val (.long v6), .second, .val (.ref b2), .val (.long hard), .second, .val (.int (1 : Int32))] [])) t
        refine XS.iconst X5.here hx rfl (hb hby at_168) ?_
        show Steps p.tables e below (T5.setTop (mkF m 169 #[.val (.int p0), .val (.long q1), .second, .val (.long q2), .second, .val (.long q3), .second, .val (.long q4), .second, .val (.long q5), .second, .val (.int v1), .val (.long v2), .second, .val (.long v3), .second, .val (.long v4), .second, .val (.long v5), .second, .val (.long v6), .second, .val (.ref b2), .val (.long hard), .second, .val (.int (1 : Int32))] [(.int (1 : Int32))])) t
        refine XS.goto X5.here hx rfl (pc0 := 169) (pc' := 173) rfl (hb hby at_169) (by decide) (by decide) ?_
        show Steps p.tables e below (T5.setTop (mkF m 173 #[.val (.int p0), .val (.long q1), .second, .val (.long q2), .second, .val (.long q3), .second, .val (.long q4), .second, .val (.long q5), .second, .val (.int v1), .val (.long v2), .second, .val (.long v3), .second, .val (.long v4), .second, .val (.long v5), .second, .val (.long v6), .second, .val (.ref b2), .val (.long hard), .second, .val (.int (1 : Int32))] [(.int (1 : Int32))])) t
        exact kt
      exact own_retN X5 hP hx hlk e5 (t := .boolean) hret (by simp) (hb hby at_173) (by decide) (by decide) (z' := (1 : Int32)) rfl ⟨rfl, N3⟩
    · refine own_go (T' := T3) (f' := (mkF m 160 #[.val (.int p0), .val (.long q1), .second, .val (.long q2), .second, .val (.long q3), .second, .val (.long q4), .second, .val (.long q5), .second, .val (.int v1), .val (.long v2), .second, .val (.long v3), .second, .val (.long v4), .second, .val (.long v5), .second, .val (.long v6), .second, .val (.ref b2), .val (.long hard), .second, .val (.int (0 : Int32))] [(.ref b2)])) (fun t kt => ?_) ?_
      · show Steps p.tables e below (T3.setTop (mkF m 148 #[.val (.int p0), .val (.long q1), .second, .val (.long q2), .second, .val (.long q3), .second, .val (.long q4), .second, .val (.long q5), .second, .val (.int v1), .val (.long v2), .second, .val (.long v3), .second, .val (.long v4), .second, .val (.long v5), .second, .val (.long v6), .second, .val (.ref b2), .val (.long hard), .second, .unset] [(.int (lcmpW hard (0 : Int64)))])) t
        refine XS.ifYes X3.here hx rfl (pc0 := 148) (pc' := 155) rfl (hb hby at_148) rfl (own_lY_ne hc148_4) (by decide) (by decide) ?_
        show Steps p.tables e below (T3.setTop (mkF m 155 #[.val (.int p0), .val (.long q1), .second, .val (.long q2), .second, .val (.long q3), .second, .val (.long q4), .second, .val (.long q5), .second, .val (.int v1), .val (.long v2), .second, .val (.long v3), .second, .val (.long v4), .second, .val (.long v5), .second, .val (.long v6), .second, .val (.ref b2), .val (.long hard), .second, .unset] [])) t
        refine XS.iconst X3.here hx rfl (hb hby at_155) ?_
        show Steps p.tables e below (T3.setTop (mkF m 156 #[.val (.int p0), .val (.long q1), .second, .val (.long q2), .second, .val (.long q3), .second, .val (.long q4), .second, .val (.long q5), .second, .val (.int v1), .val (.long v2), .second, .val (.long v3), .second, .val (.long v4), .second, .val (.long v5), .second, .val (.long v6), .second, .val (.ref b2), .val (.long hard), .second, .unset] [(.int (0 : Int32))])) t
        refine XS.istore X3.here hx rfl (hb hby at_156) rfl (l' := #[.val (.int p0), .val (.long q1), .second, .val (.long q2), .second, .val (.long q3), .second, .val (.long q4), .second, .val (.long q5), .second, .val (.int v1), .val (.long v2), .second, .val (.long v3), .second, .val (.long v4), .second, .val (.long v5), .second, .val (.long v6), .second, .val (.ref b2), .val (.long hard), .second, .val (.int (0 : Int32))]) rfl ?_
        show Steps p.tables e below (T3.setTop (mkF m 158 #[.val (.int p0), .val (.long q1), .second, .val (.long q2), .second, .val (.long q3), .second, .val (.long q4), .second, .val (.long q5), .second, .val (.int v1), .val (.long v2), .second, .val (.long v3), .second, .val (.long v4), .second, .val (.long v5), .second, .val (.long v6), .second, .val (.ref b2), .val (.long hard), .second, .val (.int (0 : Int32))] [])) t
        refine XS.aload X3.here hx rfl (hb hby at_158) rfl rfl ?_
        show Steps p.tables e below (T3.setTop (mkF m 160 #[.val (.int p0), .val (.long q1), .second, .val (.long q2), .second, .val (.long q3), .second, .val (.long q4), .second, .val (.long q5), .second, .val (.int v1), .val (.long v2), .second, .val (.long v3), .second, .val (.long v4), .second, .val (.long v5), .second, .val (.long v6), .second, .val (.ref b2), .val (.long hard), .second, .val (.int (0 : Int32))] [(.ref b2)])) t
        exact kt
      refine own_callVp X3 hx hZ hown rfl (hw _ (List.mem_of_getElem? (i := 41) rfl)) (hw _ (List.mem_of_getElem? (i := 42) rfl)) (notFace_of_selects (args := #[]) (mvT hZ (hw _ (List.mem_of_getElem? (i := 44) rfl)))) (hw _ (List.mem_of_getElem? (i := 44) rfl)) (hw _ (List.mem_of_getElem? (i := 43) rfl)) (hw _ (List.mem_of_getElem? (i := 2) rfl)) (hw _ (List.mem_of_getElem? (i := 45) rfl)) (by decide) (rm4 l Z aw hw b2 v1 v2 v3 v4 v5 v6 T3.heap n0 ZKq3 Pq3_1 Pq3_2 Pq3_3 Pq3_4 Pq3_5 Pq3_6) Pq3_0 (g := (mkF m 160 #[.val (.int p0), .val (.long q1), .second, .val (.long q2), .second, .val (.long q3), .second, .val (.long q4), .second, .val (.long q5), .second, .val (.int v1), .val (.long v2), .second, .val (.long v3), .second, .val (.long v4), .second, .val (.long v5), .second, .val (.long v6), .second, .val (.ref b2), .val (.long hard), .second, .val (.int (0 : Int32))] [(.ref b2)])) rfl (by rw [hml]; rfl) (argsL := []) (rest := []) (lenOf pd_2 rfl) rfl rfl (W := 0) (by show 2 * 0 + _ ≤ _; exact Nat.le_of_eq rfl) (hb hby at_160) (by decide) (by decide) (by decide) (by decide) ?_
      intro T6 X6 e6
      refine own_go (T' := T6) (f' := (mkF m 173 #[.val (.int p0), .val (.long q1), .second, .val (.long q2), .second, .val (.long q3), .second, .val (.long q4), .second, .val (.long q5), .second, .val (.int v1), .val (.long v2), .second, .val (.long v3), .second, .val (.long v4), .second, .val (.long v5), .second, .val (.long v6), .second, .val (.ref b2), .val (.long hard), .second, .val (.int (0 : Int32))] [(.int (1 : Int32))])) (fun t kt => ?_) ?_
      · show Steps p.tables e below (T6.setTop (mkF m 163 #[.val (.int p0), .val (.long q1), .second, .val (.long q2), .second, .val (.long q3), .second, .val (.long q4), .second, .val (.long q5), .second, .val (.int v1), .val (.long v2), .second, .val (.long v3), .second, .val (.long v4), .second, .val (.long v5), .second, .val (.long v6), .second, .val (.ref b2), .val (.long hard), .second, .val (.int (0 : Int32))] [(.int (own_z (own_feas v1 v2 v3 v4 v5 v6)))])) t
        refine XS.iload X6.here hx rfl (hb hby at_163) rfl ?_
        show Steps p.tables e below (T6.setTop (mkF m 165 #[.val (.int p0), .val (.long q1), .second, .val (.long q2), .second, .val (.long q3), .second, .val (.long q4), .second, .val (.long q5), .second, .val (.int v1), .val (.long v2), .second, .val (.long v3), .second, .val (.long v4), .second, .val (.long v5), .second, .val (.long v6), .second, .val (.ref b2), .val (.long hard), .second, .val (.int (0 : Int32))] [(.int (0 : Int32)), (.int (own_z (own_feas v1 v2 v3 v4 v5 v6)))])) t
        refine XS.icmpNo X6.here hx rfl (hb hby at_165) rfl (teq (show (own_z (own_feas v1 v2 v3 v4 v5 v6)) = (0 : Int32) from (own_fe hhard).trans (own_z_f hc148_4))).2 ?_
        show Steps p.tables e below (T6.setTop (mkF m 168 #[.val (.int p0), .val (.long q1), .second, .val (.long q2), .second, .val (.long q3), .second, .val (.long q4), .second, .val (.long q5), .second, .val (.int v1), .val (.long v2), .second, .val (.long v3), .second, .val (.long v4), .second, .val (.long v5), .second, .val (.long v6), .second, .val (.ref b2), .val (.long hard), .second, .val (.int (0 : Int32))] [])) t
        refine XS.iconst X6.here hx rfl (hb hby at_168) ?_
        show Steps p.tables e below (T6.setTop (mkF m 169 #[.val (.int p0), .val (.long q1), .second, .val (.long q2), .second, .val (.long q3), .second, .val (.long q4), .second, .val (.long q5), .second, .val (.int v1), .val (.long v2), .second, .val (.long v3), .second, .val (.long v4), .second, .val (.long v5), .second, .val (.long v6), .second, .val (.ref b2), .val (.long hard), .second, .val (.int (0 : Int32))] [(.int (1 : Int32))])) t
        refine XS.goto X6.here hx rfl (pc0 := 169) (pc' := 173) rfl (hb hby at_169) (by decide) (by decide) ?_
        show Steps p.tables e below (T6.setTop (mkF m 173 #[.val (.int p0), .val (.long q1), .second, .val (.long q2), .second, .val (.long q3), .second, .val (.long q4), .second, .val (.long q5), .second, .val (.int v1), .val (.long v2), .second, .val (.long v3), .second, .val (.long v4), .second, .val (.long v5), .second, .val (.long v6), .second, .val (.ref b2), .val (.long hard), .second, .val (.int (0 : Int32))] [(.int (1 : Int32))])) t
        exact kt
      exact own_retN X6 hP hx hlk e6 (t := .boolean) hret (by simp) (hb hby at_173) (by decide) (by decide) (z' := (1 : Int32)) rfl ⟨rfl, N3⟩
  have J73 : ∀ (Tj7 : State) (lj7 : List Loc) (v1 : Int32) (v2 : Int64) (v3 : Int64) (v4 : Int64) (v5 : Int64) (Xj7 : Stand p l e room_1 s m #[(.int p0), (.long q1), (.long q2), (.long q3), (.long q4), (.long q5)] below meth c Tj7 lj7 0 0) (Nj7 : Fr n0 lj7) (ej7 : Tj7.heap = h0), own_End p e below P Tj7 (mkF m 73 #[.val (.int p0), .val (.long q1), .second, .val (.long q2), .second, .val (.long q3), .second, .val (.long q4), .second, .val (.long q5), .second, .val (.int v1), .val (.long v2), .second, .val (.long v3), .second, .val (.long v4), .second, .val (.long v5), .second, .unset, .unset, .unset, .unset, .unset, .unset] []) := by
    intro Tj7 lj7 v1 v2 v3 v4 v5 Xj7 Nj7 ej7
    refine own_go (T' := Tj7) (f' := (mkF m 77 #[.val (.int p0), .val (.long q1), .second, .val (.long q2), .second, .val (.long q3), .second, .val (.long q4), .second, .val (.long q5), .second, .val (.int v1), .val (.long v2), .second, .val (.long v3), .second, .val (.long v4), .second, .val (.long v5), .second, .unset, .unset, .unset, .unset, .unset, .unset] [(.int (p0 &&& (32 : Int32)))])) (fun t kt => ?_) ?_
    · show Steps p.tables e below (Tj7.setTop (mkF m 73 #[.val (.int p0), .val (.long q1), .second, .val (.long q2), .second, .val (.long q3), .second, .val (.long q4), .second, .val (.long q5), .second, .val (.int v1), .val (.long v2), .second, .val (.long v3), .second, .val (.long v4), .second, .val (.long v5), .second, .unset, .unset, .unset, .unset, .unset, .unset] [])) t
      refine XS.iloadN Xj7.here hx rfl (hb hby at_73) rfl ?_
      show Steps p.tables e below (Tj7.setTop (mkF m 74 #[.val (.int p0), .val (.long q1), .second, .val (.long q2), .second, .val (.long q3), .second, .val (.long q4), .second, .val (.long q5), .second, .val (.int v1), .val (.long v2), .second, .val (.long v3), .second, .val (.long v4), .second, .val (.long v5), .second, .unset, .unset, .unset, .unset, .unset, .unset] [(.int p0)])) t
      refine XS.bipush Xj7.here hx rfl (hb hby at_74) ?_
      show Steps p.tables e below (Tj7.setTop (mkF m 76 #[.val (.int p0), .val (.long q1), .second, .val (.long q2), .second, .val (.long q3), .second, .val (.long q4), .second, .val (.long q5), .second, .val (.int v1), .val (.long v2), .second, .val (.long v3), .second, .val (.long v4), .second, .val (.long v5), .second, .unset, .unset, .unset, .unset, .unset, .unset] [(.int (32 : Int32)), (.int p0)])) t
      refine XS.iand Xj7.here hx rfl (hb hby at_76) rfl ?_
      show Steps p.tables e below (Tj7.setTop (mkF m 77 #[.val (.int p0), .val (.long q1), .second, .val (.long q2), .second, .val (.long q3), .second, .val (.long q4), .second, .val (.long q5), .second, .val (.int v1), .val (.long v2), .second, .val (.long v3), .second, .val (.long v4), .second, .val (.long v5), .second, .unset, .unset, .unset, .unset, .unset, .unset] [(.int (p0 &&& (32 : Int32)))])) t
      exact kt
    by_cases hc77_8 : (p0 &&& (32 : Int32)) = (0 : Int32)
    · refine own_go (T' := Tj7) (f' := (mkF m 88 #[.val (.int p0), .val (.long q1), .second, .val (.long q2), .second, .val (.long q3), .second, .val (.long q4), .second, .val (.long q5), .second, .val (.int v1), .val (.long v2), .second, .val (.long v3), .second, .val (.long v4), .second, .val (.long v5), .second, .val (.long (0 : Int64)), .second, .unset, .unset, .unset, .unset] [])) (fun t kt => ?_) ?_
      · show Steps p.tables e below (Tj7.setTop (mkF m 77 #[.val (.int p0), .val (.long q1), .second, .val (.long q2), .second, .val (.long q3), .second, .val (.long q4), .second, .val (.long q5), .second, .val (.int v1), .val (.long v2), .second, .val (.long v3), .second, .val (.long v4), .second, .val (.long v5), .second, .unset, .unset, .unset, .unset, .unset, .unset] [(.int (p0 &&& (32 : Int32)))])) t
        refine XS.ifYes Xj7.here hx rfl (pc0 := 77) (pc' := 85) rfl (hb hby at_77) rfl ((if0 _ _).trans (teq hc77_8).1) (by decide) (by decide) ?_
        show Steps p.tables e below (Tj7.setTop (mkF m 85 #[.val (.int p0), .val (.long q1), .second, .val (.long q2), .second, .val (.long q3), .second, .val (.long q4), .second, .val (.long q5), .second, .val (.int v1), .val (.long v2), .second, .val (.long v3), .second, .val (.long v4), .second, .val (.long v5), .second, .unset, .unset, .unset, .unset, .unset, .unset] [])) t
        refine XS.lconst Xj7.here hx rfl (hb hby at_85) ?_
        show Steps p.tables e below (Tj7.setTop (mkF m 86 #[.val (.int p0), .val (.long q1), .second, .val (.long q2), .second, .val (.long q3), .second, .val (.long q4), .second, .val (.long q5), .second, .val (.int v1), .val (.long v2), .second, .val (.long v3), .second, .val (.long v4), .second, .val (.long v5), .second, .unset, .unset, .unset, .unset, .unset, .unset] [(.long (0 : Int64))])) t
        refine XS.lstore Xj7.here hx rfl (hb hby at_86) rfl (l' := #[.val (.int p0), .val (.long q1), .second, .val (.long q2), .second, .val (.long q3), .second, .val (.long q4), .second, .val (.long q5), .second, .val (.int v1), .val (.long v2), .second, .val (.long v3), .second, .val (.long v4), .second, .val (.long v5), .second, .val (.long (0 : Int64)), .second, .unset, .unset, .unset, .unset]) rfl ?_
        show Steps p.tables e below (Tj7.setTop (mkF m 88 #[.val (.int p0), .val (.long q1), .second, .val (.long q2), .second, .val (.long q3), .second, .val (.long q4), .second, .val (.long q5), .second, .val (.int v1), .val (.long v2), .second, .val (.long v3), .second, .val (.long v4), .second, .val (.long v5), .second, .val (.long (0 : Int64)), .second, .unset, .unset, .unset, .unset] [])) t
        exact kt
      exact J88 Tj7 _ v1 v2 v3 v4 v5 (0 : Int64) Xj7 Nj7 ej7
    · refine own_go (T' := Tj7) (f' := (mkF m 88 #[.val (.int p0), .val (.long q1), .second, .val (.long q2), .second, .val (.long q3), .second, .val (.long q4), .second, .val (.long q5), .second, .val (.int v1), .val (.long v2), .second, .val (.long v3), .second, .val (.long v4), .second, .val (.long v5), .second, .val (.long q5), .second, .unset, .unset, .unset, .unset] [])) (fun t kt => ?_) ?_
      · show Steps p.tables e below (Tj7.setTop (mkF m 77 #[.val (.int p0), .val (.long q1), .second, .val (.long q2), .second, .val (.long q3), .second, .val (.long q4), .second, .val (.long q5), .second, .val (.int v1), .val (.long v2), .second, .val (.long v3), .second, .val (.long v4), .second, .val (.long v5), .second, .unset, .unset, .unset, .unset, .unset, .unset] [(.int (p0 &&& (32 : Int32)))])) t
        refine XS.ifNo Xj7.here hx rfl (hb hby at_77) rfl ((if0 _ _).trans (feq hc77_8).1) ?_
        show Steps p.tables e below (Tj7.setTop (mkF m 80 #[.val (.int p0), .val (.long q1), .second, .val (.long q2), .second, .val (.long q3), .second, .val (.long q4), .second, .val (.long q5), .second, .val (.int v1), .val (.long v2), .second, .val (.long v3), .second, .val (.long v4), .second, .val (.long v5), .second, .unset, .unset, .unset, .unset, .unset, .unset] [])) t
        refine XS.lload Xj7.here hx rfl (hb hby at_80) rfl ?_
        show Steps p.tables e below (Tj7.setTop (mkF m 82 #[.val (.int p0), .val (.long q1), .second, .val (.long q2), .second, .val (.long q3), .second, .val (.long q4), .second, .val (.long q5), .second, .val (.int v1), .val (.long v2), .second, .val (.long v3), .second, .val (.long v4), .second, .val (.long v5), .second, .unset, .unset, .unset, .unset, .unset, .unset] [(.long q5)])) t
        refine XS.goto Xj7.here hx rfl (pc0 := 82) (pc' := 86) rfl (hb hby at_82) (by decide) (by decide) ?_
        show Steps p.tables e below (Tj7.setTop (mkF m 86 #[.val (.int p0), .val (.long q1), .second, .val (.long q2), .second, .val (.long q3), .second, .val (.long q4), .second, .val (.long q5), .second, .val (.int v1), .val (.long v2), .second, .val (.long v3), .second, .val (.long v4), .second, .val (.long v5), .second, .unset, .unset, .unset, .unset, .unset, .unset] [(.long q5)])) t
        refine XS.lstore Xj7.here hx rfl (hb hby at_86) rfl (l' := #[.val (.int p0), .val (.long q1), .second, .val (.long q2), .second, .val (.long q3), .second, .val (.long q4), .second, .val (.long q5), .second, .val (.int v1), .val (.long v2), .second, .val (.long v3), .second, .val (.long v4), .second, .val (.long v5), .second, .val (.long q5), .second, .unset, .unset, .unset, .unset]) rfl ?_
        show Steps p.tables e below (Tj7.setTop (mkF m 88 #[.val (.int p0), .val (.long q1), .second, .val (.long q2), .second, .val (.long q3), .second, .val (.long q4), .second, .val (.long q5), .second, .val (.int v1), .val (.long v2), .second, .val (.long v3), .second, .val (.long v4), .second, .val (.long v5), .second, .val (.long q5), .second, .unset, .unset, .unset, .unset] [])) t
        exact kt
      exact J88 Tj7 _ v1 v2 v3 v4 v5 q5 Xj7 Nj7 ej7
  have J58 : ∀ (Tj9 : State) (lj9 : List Loc) (v1 : Int32) (v2 : Int64) (v3 : Int64) (v4 : Int64) (Xj9 : Stand p l e room_1 s m #[(.int p0), (.long q1), (.long q2), (.long q3), (.long q4), (.long q5)] below meth c Tj9 lj9 0 0) (Nj9 : Fr n0 lj9) (ej9 : Tj9.heap = h0), own_End p e below P Tj9 (mkF m 58 #[.val (.int p0), .val (.long q1), .second, .val (.long q2), .second, .val (.long q3), .second, .val (.long q4), .second, .val (.long q5), .second, .val (.int v1), .val (.long v2), .second, .val (.long v3), .second, .val (.long v4), .second, .unset, .unset, .unset, .unset, .unset, .unset, .unset, .unset] []) := by
    intro Tj9 lj9 v1 v2 v3 v4 Xj9 Nj9 ej9
    refine own_go (T' := Tj9) (f' := (mkF m 62 #[.val (.int p0), .val (.long q1), .second, .val (.long q2), .second, .val (.long q3), .second, .val (.long q4), .second, .val (.long q5), .second, .val (.int v1), .val (.long v2), .second, .val (.long v3), .second, .val (.long v4), .second, .unset, .unset, .unset, .unset, .unset, .unset, .unset, .unset] [(.int (p0 &&& (16 : Int32)))])) (fun t kt => ?_) ?_
    · show Steps p.tables e below (Tj9.setTop (mkF m 58 #[.val (.int p0), .val (.long q1), .second, .val (.long q2), .second, .val (.long q3), .second, .val (.long q4), .second, .val (.long q5), .second, .val (.int v1), .val (.long v2), .second, .val (.long v3), .second, .val (.long v4), .second, .unset, .unset, .unset, .unset, .unset, .unset, .unset, .unset] [])) t
      refine XS.iloadN Xj9.here hx rfl (hb hby at_58) rfl ?_
      show Steps p.tables e below (Tj9.setTop (mkF m 59 #[.val (.int p0), .val (.long q1), .second, .val (.long q2), .second, .val (.long q3), .second, .val (.long q4), .second, .val (.long q5), .second, .val (.int v1), .val (.long v2), .second, .val (.long v3), .second, .val (.long v4), .second, .unset, .unset, .unset, .unset, .unset, .unset, .unset, .unset] [(.int p0)])) t
      refine XS.bipush Xj9.here hx rfl (hb hby at_59) ?_
      show Steps p.tables e below (Tj9.setTop (mkF m 61 #[.val (.int p0), .val (.long q1), .second, .val (.long q2), .second, .val (.long q3), .second, .val (.long q4), .second, .val (.long q5), .second, .val (.int v1), .val (.long v2), .second, .val (.long v3), .second, .val (.long v4), .second, .unset, .unset, .unset, .unset, .unset, .unset, .unset, .unset] [(.int (16 : Int32)), (.int p0)])) t
      refine XS.iand Xj9.here hx rfl (hb hby at_61) rfl ?_
      show Steps p.tables e below (Tj9.setTop (mkF m 62 #[.val (.int p0), .val (.long q1), .second, .val (.long q2), .second, .val (.long q3), .second, .val (.long q4), .second, .val (.long q5), .second, .val (.int v1), .val (.long v2), .second, .val (.long v3), .second, .val (.long v4), .second, .unset, .unset, .unset, .unset, .unset, .unset, .unset, .unset] [(.int (p0 &&& (16 : Int32)))])) t
      exact kt
    by_cases hc62_10 : (p0 &&& (16 : Int32)) = (0 : Int32)
    · refine own_go (T' := Tj9) (f' := (mkF m 73 #[.val (.int p0), .val (.long q1), .second, .val (.long q2), .second, .val (.long q3), .second, .val (.long q4), .second, .val (.long q5), .second, .val (.int v1), .val (.long v2), .second, .val (.long v3), .second, .val (.long v4), .second, .val (.long (0 : Int64)), .second, .unset, .unset, .unset, .unset, .unset, .unset] [])) (fun t kt => ?_) ?_
      · show Steps p.tables e below (Tj9.setTop (mkF m 62 #[.val (.int p0), .val (.long q1), .second, .val (.long q2), .second, .val (.long q3), .second, .val (.long q4), .second, .val (.long q5), .second, .val (.int v1), .val (.long v2), .second, .val (.long v3), .second, .val (.long v4), .second, .unset, .unset, .unset, .unset, .unset, .unset, .unset, .unset] [(.int (p0 &&& (16 : Int32)))])) t
        refine XS.ifYes Xj9.here hx rfl (pc0 := 62) (pc' := 70) rfl (hb hby at_62) rfl ((if0 _ _).trans (teq hc62_10).1) (by decide) (by decide) ?_
        show Steps p.tables e below (Tj9.setTop (mkF m 70 #[.val (.int p0), .val (.long q1), .second, .val (.long q2), .second, .val (.long q3), .second, .val (.long q4), .second, .val (.long q5), .second, .val (.int v1), .val (.long v2), .second, .val (.long v3), .second, .val (.long v4), .second, .unset, .unset, .unset, .unset, .unset, .unset, .unset, .unset] [])) t
        refine XS.lconst Xj9.here hx rfl (hb hby at_70) ?_
        show Steps p.tables e below (Tj9.setTop (mkF m 71 #[.val (.int p0), .val (.long q1), .second, .val (.long q2), .second, .val (.long q3), .second, .val (.long q4), .second, .val (.long q5), .second, .val (.int v1), .val (.long v2), .second, .val (.long v3), .second, .val (.long v4), .second, .unset, .unset, .unset, .unset, .unset, .unset, .unset, .unset] [(.long (0 : Int64))])) t
        refine XS.lstore Xj9.here hx rfl (hb hby at_71) rfl (l' := #[.val (.int p0), .val (.long q1), .second, .val (.long q2), .second, .val (.long q3), .second, .val (.long q4), .second, .val (.long q5), .second, .val (.int v1), .val (.long v2), .second, .val (.long v3), .second, .val (.long v4), .second, .val (.long (0 : Int64)), .second, .unset, .unset, .unset, .unset, .unset, .unset]) rfl ?_
        show Steps p.tables e below (Tj9.setTop (mkF m 73 #[.val (.int p0), .val (.long q1), .second, .val (.long q2), .second, .val (.long q3), .second, .val (.long q4), .second, .val (.long q5), .second, .val (.int v1), .val (.long v2), .second, .val (.long v3), .second, .val (.long v4), .second, .val (.long (0 : Int64)), .second, .unset, .unset, .unset, .unset, .unset, .unset] [])) t
        exact kt
      exact J73 Tj9 _ v1 v2 v3 v4 (0 : Int64) Xj9 Nj9 ej9
    · refine own_go (T' := Tj9) (f' := (mkF m 73 #[.val (.int p0), .val (.long q1), .second, .val (.long q2), .second, .val (.long q3), .second, .val (.long q4), .second, .val (.long q5), .second, .val (.int v1), .val (.long v2), .second, .val (.long v3), .second, .val (.long v4), .second, .val (.long q4), .second, .unset, .unset, .unset, .unset, .unset, .unset] [])) (fun t kt => ?_) ?_
      · show Steps p.tables e below (Tj9.setTop (mkF m 62 #[.val (.int p0), .val (.long q1), .second, .val (.long q2), .second, .val (.long q3), .second, .val (.long q4), .second, .val (.long q5), .second, .val (.int v1), .val (.long v2), .second, .val (.long v3), .second, .val (.long v4), .second, .unset, .unset, .unset, .unset, .unset, .unset, .unset, .unset] [(.int (p0 &&& (16 : Int32)))])) t
        refine XS.ifNo Xj9.here hx rfl (hb hby at_62) rfl ((if0 _ _).trans (feq hc62_10).1) ?_
        show Steps p.tables e below (Tj9.setTop (mkF m 65 #[.val (.int p0), .val (.long q1), .second, .val (.long q2), .second, .val (.long q3), .second, .val (.long q4), .second, .val (.long q5), .second, .val (.int v1), .val (.long v2), .second, .val (.long v3), .second, .val (.long v4), .second, .unset, .unset, .unset, .unset, .unset, .unset, .unset, .unset] [])) t
        refine XS.lload Xj9.here hx rfl (hb hby at_65) rfl ?_
        show Steps p.tables e below (Tj9.setTop (mkF m 67 #[.val (.int p0), .val (.long q1), .second, .val (.long q2), .second, .val (.long q3), .second, .val (.long q4), .second, .val (.long q5), .second, .val (.int v1), .val (.long v2), .second, .val (.long v3), .second, .val (.long v4), .second, .unset, .unset, .unset, .unset, .unset, .unset, .unset, .unset] [(.long q4)])) t
        refine XS.goto Xj9.here hx rfl (pc0 := 67) (pc' := 71) rfl (hb hby at_67) (by decide) (by decide) ?_
        show Steps p.tables e below (Tj9.setTop (mkF m 71 #[.val (.int p0), .val (.long q1), .second, .val (.long q2), .second, .val (.long q3), .second, .val (.long q4), .second, .val (.long q5), .second, .val (.int v1), .val (.long v2), .second, .val (.long v3), .second, .val (.long v4), .second, .unset, .unset, .unset, .unset, .unset, .unset, .unset, .unset] [(.long q4)])) t
        refine XS.lstore Xj9.here hx rfl (hb hby at_71) rfl (l' := #[.val (.int p0), .val (.long q1), .second, .val (.long q2), .second, .val (.long q3), .second, .val (.long q4), .second, .val (.long q5), .second, .val (.int v1), .val (.long v2), .second, .val (.long v3), .second, .val (.long v4), .second, .val (.long q4), .second, .unset, .unset, .unset, .unset, .unset, .unset]) rfl ?_
        show Steps p.tables e below (Tj9.setTop (mkF m 73 #[.val (.int p0), .val (.long q1), .second, .val (.long q2), .second, .val (.long q3), .second, .val (.long q4), .second, .val (.long q5), .second, .val (.int v1), .val (.long v2), .second, .val (.long v3), .second, .val (.long v4), .second, .val (.long q4), .second, .unset, .unset, .unset, .unset, .unset, .unset] [])) t
        exact kt
      exact J73 Tj9 _ v1 v2 v3 v4 q4 Xj9 Nj9 ej9
  have J43 : ∀ (Tj11 : State) (lj11 : List Loc) (v1 : Int32) (v2 : Int64) (v3 : Int64) (Xj11 : Stand p l e room_1 s m #[(.int p0), (.long q1), (.long q2), (.long q3), (.long q4), (.long q5)] below meth c Tj11 lj11 0 0) (Nj11 : Fr n0 lj11) (ej11 : Tj11.heap = h0), own_End p e below P Tj11 (mkF m 43 #[.val (.int p0), .val (.long q1), .second, .val (.long q2), .second, .val (.long q3), .second, .val (.long q4), .second, .val (.long q5), .second, .val (.int v1), .val (.long v2), .second, .val (.long v3), .second, .unset, .unset, .unset, .unset, .unset, .unset, .unset, .unset, .unset, .unset] []) := by
    intro Tj11 lj11 v1 v2 v3 Xj11 Nj11 ej11
    refine own_go (T' := Tj11) (f' := (mkF m 47 #[.val (.int p0), .val (.long q1), .second, .val (.long q2), .second, .val (.long q3), .second, .val (.long q4), .second, .val (.long q5), .second, .val (.int v1), .val (.long v2), .second, .val (.long v3), .second, .unset, .unset, .unset, .unset, .unset, .unset, .unset, .unset, .unset, .unset] [(.int (p0 &&& (8 : Int32)))])) (fun t kt => ?_) ?_
    · show Steps p.tables e below (Tj11.setTop (mkF m 43 #[.val (.int p0), .val (.long q1), .second, .val (.long q2), .second, .val (.long q3), .second, .val (.long q4), .second, .val (.long q5), .second, .val (.int v1), .val (.long v2), .second, .val (.long v3), .second, .unset, .unset, .unset, .unset, .unset, .unset, .unset, .unset, .unset, .unset] [])) t
      refine XS.iloadN Xj11.here hx rfl (hb hby at_43) rfl ?_
      show Steps p.tables e below (Tj11.setTop (mkF m 44 #[.val (.int p0), .val (.long q1), .second, .val (.long q2), .second, .val (.long q3), .second, .val (.long q4), .second, .val (.long q5), .second, .val (.int v1), .val (.long v2), .second, .val (.long v3), .second, .unset, .unset, .unset, .unset, .unset, .unset, .unset, .unset, .unset, .unset] [(.int p0)])) t
      refine XS.bipush Xj11.here hx rfl (hb hby at_44) ?_
      show Steps p.tables e below (Tj11.setTop (mkF m 46 #[.val (.int p0), .val (.long q1), .second, .val (.long q2), .second, .val (.long q3), .second, .val (.long q4), .second, .val (.long q5), .second, .val (.int v1), .val (.long v2), .second, .val (.long v3), .second, .unset, .unset, .unset, .unset, .unset, .unset, .unset, .unset, .unset, .unset] [(.int (8 : Int32)), (.int p0)])) t
      refine XS.iand Xj11.here hx rfl (hb hby at_46) rfl ?_
      show Steps p.tables e below (Tj11.setTop (mkF m 47 #[.val (.int p0), .val (.long q1), .second, .val (.long q2), .second, .val (.long q3), .second, .val (.long q4), .second, .val (.long q5), .second, .val (.int v1), .val (.long v2), .second, .val (.long v3), .second, .unset, .unset, .unset, .unset, .unset, .unset, .unset, .unset, .unset, .unset] [(.int (p0 &&& (8 : Int32)))])) t
      exact kt
    by_cases hc47_12 : (p0 &&& (8 : Int32)) = (0 : Int32)
    · refine own_go (T' := Tj11) (f' := (mkF m 58 #[.val (.int p0), .val (.long q1), .second, .val (.long q2), .second, .val (.long q3), .second, .val (.long q4), .second, .val (.long q5), .second, .val (.int v1), .val (.long v2), .second, .val (.long v3), .second, .val (.long (0 : Int64)), .second, .unset, .unset, .unset, .unset, .unset, .unset, .unset, .unset] [])) (fun t kt => ?_) ?_
      · show Steps p.tables e below (Tj11.setTop (mkF m 47 #[.val (.int p0), .val (.long q1), .second, .val (.long q2), .second, .val (.long q3), .second, .val (.long q4), .second, .val (.long q5), .second, .val (.int v1), .val (.long v2), .second, .val (.long v3), .second, .unset, .unset, .unset, .unset, .unset, .unset, .unset, .unset, .unset, .unset] [(.int (p0 &&& (8 : Int32)))])) t
        refine XS.ifYes Xj11.here hx rfl (pc0 := 47) (pc' := 55) rfl (hb hby at_47) rfl ((if0 _ _).trans (teq hc47_12).1) (by decide) (by decide) ?_
        show Steps p.tables e below (Tj11.setTop (mkF m 55 #[.val (.int p0), .val (.long q1), .second, .val (.long q2), .second, .val (.long q3), .second, .val (.long q4), .second, .val (.long q5), .second, .val (.int v1), .val (.long v2), .second, .val (.long v3), .second, .unset, .unset, .unset, .unset, .unset, .unset, .unset, .unset, .unset, .unset] [])) t
        refine XS.lconst Xj11.here hx rfl (hb hby at_55) ?_
        show Steps p.tables e below (Tj11.setTop (mkF m 56 #[.val (.int p0), .val (.long q1), .second, .val (.long q2), .second, .val (.long q3), .second, .val (.long q4), .second, .val (.long q5), .second, .val (.int v1), .val (.long v2), .second, .val (.long v3), .second, .unset, .unset, .unset, .unset, .unset, .unset, .unset, .unset, .unset, .unset] [(.long (0 : Int64))])) t
        refine XS.lstore Xj11.here hx rfl (hb hby at_56) rfl (l' := #[.val (.int p0), .val (.long q1), .second, .val (.long q2), .second, .val (.long q3), .second, .val (.long q4), .second, .val (.long q5), .second, .val (.int v1), .val (.long v2), .second, .val (.long v3), .second, .val (.long (0 : Int64)), .second, .unset, .unset, .unset, .unset, .unset, .unset, .unset, .unset]) rfl ?_
        show Steps p.tables e below (Tj11.setTop (mkF m 58 #[.val (.int p0), .val (.long q1), .second, .val (.long q2), .second, .val (.long q3), .second, .val (.long q4), .second, .val (.long q5), .second, .val (.int v1), .val (.long v2), .second, .val (.long v3), .second, .val (.long (0 : Int64)), .second, .unset, .unset, .unset, .unset, .unset, .unset, .unset, .unset] [])) t
        exact kt
      exact J58 Tj11 _ v1 v2 v3 (0 : Int64) Xj11 Nj11 ej11
    · refine own_go (T' := Tj11) (f' := (mkF m 58 #[.val (.int p0), .val (.long q1), .second, .val (.long q2), .second, .val (.long q3), .second, .val (.long q4), .second, .val (.long q5), .second, .val (.int v1), .val (.long v2), .second, .val (.long v3), .second, .val (.long q3), .second, .unset, .unset, .unset, .unset, .unset, .unset, .unset, .unset] [])) (fun t kt => ?_) ?_
      · show Steps p.tables e below (Tj11.setTop (mkF m 47 #[.val (.int p0), .val (.long q1), .second, .val (.long q2), .second, .val (.long q3), .second, .val (.long q4), .second, .val (.long q5), .second, .val (.int v1), .val (.long v2), .second, .val (.long v3), .second, .unset, .unset, .unset, .unset, .unset, .unset, .unset, .unset, .unset, .unset] [(.int (p0 &&& (8 : Int32)))])) t
        refine XS.ifNo Xj11.here hx rfl (hb hby at_47) rfl ((if0 _ _).trans (feq hc47_12).1) ?_
        show Steps p.tables e below (Tj11.setTop (mkF m 50 #[.val (.int p0), .val (.long q1), .second, .val (.long q2), .second, .val (.long q3), .second, .val (.long q4), .second, .val (.long q5), .second, .val (.int v1), .val (.long v2), .second, .val (.long v3), .second, .unset, .unset, .unset, .unset, .unset, .unset, .unset, .unset, .unset, .unset] [])) t
        refine XS.lload Xj11.here hx rfl (hb hby at_50) rfl ?_
        show Steps p.tables e below (Tj11.setTop (mkF m 52 #[.val (.int p0), .val (.long q1), .second, .val (.long q2), .second, .val (.long q3), .second, .val (.long q4), .second, .val (.long q5), .second, .val (.int v1), .val (.long v2), .second, .val (.long v3), .second, .unset, .unset, .unset, .unset, .unset, .unset, .unset, .unset, .unset, .unset] [(.long q3)])) t
        refine XS.goto Xj11.here hx rfl (pc0 := 52) (pc' := 56) rfl (hb hby at_52) (by decide) (by decide) ?_
        show Steps p.tables e below (Tj11.setTop (mkF m 56 #[.val (.int p0), .val (.long q1), .second, .val (.long q2), .second, .val (.long q3), .second, .val (.long q4), .second, .val (.long q5), .second, .val (.int v1), .val (.long v2), .second, .val (.long v3), .second, .unset, .unset, .unset, .unset, .unset, .unset, .unset, .unset, .unset, .unset] [(.long q3)])) t
        refine XS.lstore Xj11.here hx rfl (hb hby at_56) rfl (l' := #[.val (.int p0), .val (.long q1), .second, .val (.long q2), .second, .val (.long q3), .second, .val (.long q4), .second, .val (.long q5), .second, .val (.int v1), .val (.long v2), .second, .val (.long v3), .second, .val (.long q3), .second, .unset, .unset, .unset, .unset, .unset, .unset, .unset, .unset]) rfl ?_
        show Steps p.tables e below (Tj11.setTop (mkF m 58 #[.val (.int p0), .val (.long q1), .second, .val (.long q2), .second, .val (.long q3), .second, .val (.long q4), .second, .val (.long q5), .second, .val (.int v1), .val (.long v2), .second, .val (.long v3), .second, .val (.long q3), .second, .unset, .unset, .unset, .unset, .unset, .unset, .unset, .unset] [])) t
        exact kt
      exact J58 Tj11 _ v1 v2 v3 q3 Xj11 Nj11 ej11
  have J30 : ∀ (Tj13 : State) (lj13 : List Loc) (v1 : Int32) (v2 : Int64) (Xj13 : Stand p l e room_1 s m #[(.int p0), (.long q1), (.long q2), (.long q3), (.long q4), (.long q5)] below meth c Tj13 lj13 0 0) (Nj13 : Fr n0 lj13) (ej13 : Tj13.heap = h0), own_End p e below P Tj13 (mkF m 30 #[.val (.int p0), .val (.long q1), .second, .val (.long q2), .second, .val (.long q3), .second, .val (.long q4), .second, .val (.long q5), .second, .val (.int v1), .val (.long v2), .second, .unset, .unset, .unset, .unset, .unset, .unset, .unset, .unset, .unset, .unset, .unset, .unset] []) := by
    intro Tj13 lj13 v1 v2 Xj13 Nj13 ej13
    refine own_go (T' := Tj13) (f' := (mkF m 33 #[.val (.int p0), .val (.long q1), .second, .val (.long q2), .second, .val (.long q3), .second, .val (.long q4), .second, .val (.long q5), .second, .val (.int v1), .val (.long v2), .second, .unset, .unset, .unset, .unset, .unset, .unset, .unset, .unset, .unset, .unset, .unset, .unset] [(.int (p0 &&& (4 : Int32)))])) (fun t kt => ?_) ?_
    · show Steps p.tables e below (Tj13.setTop (mkF m 30 #[.val (.int p0), .val (.long q1), .second, .val (.long q2), .second, .val (.long q3), .second, .val (.long q4), .second, .val (.long q5), .second, .val (.int v1), .val (.long v2), .second, .unset, .unset, .unset, .unset, .unset, .unset, .unset, .unset, .unset, .unset, .unset, .unset] [])) t
      refine XS.iloadN Xj13.here hx rfl (hb hby at_30) rfl ?_
      show Steps p.tables e below (Tj13.setTop (mkF m 31 #[.val (.int p0), .val (.long q1), .second, .val (.long q2), .second, .val (.long q3), .second, .val (.long q4), .second, .val (.long q5), .second, .val (.int v1), .val (.long v2), .second, .unset, .unset, .unset, .unset, .unset, .unset, .unset, .unset, .unset, .unset, .unset, .unset] [(.int p0)])) t
      refine XS.iconst Xj13.here hx rfl (hb hby at_31) ?_
      show Steps p.tables e below (Tj13.setTop (mkF m 32 #[.val (.int p0), .val (.long q1), .second, .val (.long q2), .second, .val (.long q3), .second, .val (.long q4), .second, .val (.long q5), .second, .val (.int v1), .val (.long v2), .second, .unset, .unset, .unset, .unset, .unset, .unset, .unset, .unset, .unset, .unset, .unset, .unset] [(.int (4 : Int32)), (.int p0)])) t
      refine XS.iand Xj13.here hx rfl (hb hby at_32) rfl ?_
      show Steps p.tables e below (Tj13.setTop (mkF m 33 #[.val (.int p0), .val (.long q1), .second, .val (.long q2), .second, .val (.long q3), .second, .val (.long q4), .second, .val (.long q5), .second, .val (.int v1), .val (.long v2), .second, .unset, .unset, .unset, .unset, .unset, .unset, .unset, .unset, .unset, .unset, .unset, .unset] [(.int (p0 &&& (4 : Int32)))])) t
      exact kt
    by_cases hc33_14 : (p0 &&& (4 : Int32)) = (0 : Int32)
    · refine own_go (T' := Tj13) (f' := (mkF m 43 #[.val (.int p0), .val (.long q1), .second, .val (.long q2), .second, .val (.long q3), .second, .val (.long q4), .second, .val (.long q5), .second, .val (.int v1), .val (.long v2), .second, .val (.long (0 : Int64)), .second, .unset, .unset, .unset, .unset, .unset, .unset, .unset, .unset, .unset, .unset] [])) (fun t kt => ?_) ?_
      · show Steps p.tables e below (Tj13.setTop (mkF m 33 #[.val (.int p0), .val (.long q1), .second, .val (.long q2), .second, .val (.long q3), .second, .val (.long q4), .second, .val (.long q5), .second, .val (.int v1), .val (.long v2), .second, .unset, .unset, .unset, .unset, .unset, .unset, .unset, .unset, .unset, .unset, .unset, .unset] [(.int (p0 &&& (4 : Int32)))])) t
        refine XS.ifYes Xj13.here hx rfl (pc0 := 33) (pc' := 40) rfl (hb hby at_33) rfl ((if0 _ _).trans (teq hc33_14).1) (by decide) (by decide) ?_
        show Steps p.tables e below (Tj13.setTop (mkF m 40 #[.val (.int p0), .val (.long q1), .second, .val (.long q2), .second, .val (.long q3), .second, .val (.long q4), .second, .val (.long q5), .second, .val (.int v1), .val (.long v2), .second, .unset, .unset, .unset, .unset, .unset, .unset, .unset, .unset, .unset, .unset, .unset, .unset] [])) t
        refine XS.lconst Xj13.here hx rfl (hb hby at_40) ?_
        show Steps p.tables e below (Tj13.setTop (mkF m 41 #[.val (.int p0), .val (.long q1), .second, .val (.long q2), .second, .val (.long q3), .second, .val (.long q4), .second, .val (.long q5), .second, .val (.int v1), .val (.long v2), .second, .unset, .unset, .unset, .unset, .unset, .unset, .unset, .unset, .unset, .unset, .unset, .unset] [(.long (0 : Int64))])) t
        refine XS.lstore Xj13.here hx rfl (hb hby at_41) rfl (l' := #[.val (.int p0), .val (.long q1), .second, .val (.long q2), .second, .val (.long q3), .second, .val (.long q4), .second, .val (.long q5), .second, .val (.int v1), .val (.long v2), .second, .val (.long (0 : Int64)), .second, .unset, .unset, .unset, .unset, .unset, .unset, .unset, .unset, .unset, .unset]) rfl ?_
        show Steps p.tables e below (Tj13.setTop (mkF m 43 #[.val (.int p0), .val (.long q1), .second, .val (.long q2), .second, .val (.long q3), .second, .val (.long q4), .second, .val (.long q5), .second, .val (.int v1), .val (.long v2), .second, .val (.long (0 : Int64)), .second, .unset, .unset, .unset, .unset, .unset, .unset, .unset, .unset, .unset, .unset] [])) t
        exact kt
      exact J43 Tj13 _ v1 v2 (0 : Int64) Xj13 Nj13 ej13
    · refine own_go (T' := Tj13) (f' := (mkF m 43 #[.val (.int p0), .val (.long q1), .second, .val (.long q2), .second, .val (.long q3), .second, .val (.long q4), .second, .val (.long q5), .second, .val (.int v1), .val (.long v2), .second, .val (.long q2), .second, .unset, .unset, .unset, .unset, .unset, .unset, .unset, .unset, .unset, .unset] [])) (fun t kt => ?_) ?_
      · show Steps p.tables e below (Tj13.setTop (mkF m 33 #[.val (.int p0), .val (.long q1), .second, .val (.long q2), .second, .val (.long q3), .second, .val (.long q4), .second, .val (.long q5), .second, .val (.int v1), .val (.long v2), .second, .unset, .unset, .unset, .unset, .unset, .unset, .unset, .unset, .unset, .unset, .unset, .unset] [(.int (p0 &&& (4 : Int32)))])) t
        refine XS.ifNo Xj13.here hx rfl (hb hby at_33) rfl ((if0 _ _).trans (feq hc33_14).1) ?_
        show Steps p.tables e below (Tj13.setTop (mkF m 36 #[.val (.int p0), .val (.long q1), .second, .val (.long q2), .second, .val (.long q3), .second, .val (.long q4), .second, .val (.long q5), .second, .val (.int v1), .val (.long v2), .second, .unset, .unset, .unset, .unset, .unset, .unset, .unset, .unset, .unset, .unset, .unset, .unset] [])) t
        refine XS.lloadN Xj13.here hx rfl (hb hby at_36) rfl ?_
        show Steps p.tables e below (Tj13.setTop (mkF m 37 #[.val (.int p0), .val (.long q1), .second, .val (.long q2), .second, .val (.long q3), .second, .val (.long q4), .second, .val (.long q5), .second, .val (.int v1), .val (.long v2), .second, .unset, .unset, .unset, .unset, .unset, .unset, .unset, .unset, .unset, .unset, .unset, .unset] [(.long q2)])) t
        refine XS.goto Xj13.here hx rfl (pc0 := 37) (pc' := 41) rfl (hb hby at_37) (by decide) (by decide) ?_
        show Steps p.tables e below (Tj13.setTop (mkF m 41 #[.val (.int p0), .val (.long q1), .second, .val (.long q2), .second, .val (.long q3), .second, .val (.long q4), .second, .val (.long q5), .second, .val (.int v1), .val (.long v2), .second, .unset, .unset, .unset, .unset, .unset, .unset, .unset, .unset, .unset, .unset, .unset, .unset] [(.long q2)])) t
        refine XS.lstore Xj13.here hx rfl (hb hby at_41) rfl (l' := #[.val (.int p0), .val (.long q1), .second, .val (.long q2), .second, .val (.long q3), .second, .val (.long q4), .second, .val (.long q5), .second, .val (.int v1), .val (.long v2), .second, .val (.long q2), .second, .unset, .unset, .unset, .unset, .unset, .unset, .unset, .unset, .unset, .unset]) rfl ?_
        show Steps p.tables e below (Tj13.setTop (mkF m 43 #[.val (.int p0), .val (.long q1), .second, .val (.long q2), .second, .val (.long q3), .second, .val (.long q4), .second, .val (.long q5), .second, .val (.int v1), .val (.long v2), .second, .val (.long q2), .second, .unset, .unset, .unset, .unset, .unset, .unset, .unset, .unset, .unset, .unset] [])) t
        exact kt
      exact J43 Tj13 _ v1 v2 q2 Xj13 Nj13 ej13
  have J17 : ∀ (Tj15 : State) (lj15 : List Loc) (v1 : Int32) (Xj15 : Stand p l e room_1 s m #[(.int p0), (.long q1), (.long q2), (.long q3), (.long q4), (.long q5)] below meth c Tj15 lj15 0 0) (Nj15 : Fr n0 lj15) (ej15 : Tj15.heap = h0), own_End p e below P Tj15 (mkF m 17 #[.val (.int p0), .val (.long q1), .second, .val (.long q2), .second, .val (.long q3), .second, .val (.long q4), .second, .val (.long q5), .second, .val (.int v1), .unset, .unset, .unset, .unset, .unset, .unset, .unset, .unset, .unset, .unset, .unset, .unset, .unset, .unset] []) := by
    intro Tj15 lj15 v1 Xj15 Nj15 ej15
    refine own_go (T' := Tj15) (f' := (mkF m 20 #[.val (.int p0), .val (.long q1), .second, .val (.long q2), .second, .val (.long q3), .second, .val (.long q4), .second, .val (.long q5), .second, .val (.int v1), .unset, .unset, .unset, .unset, .unset, .unset, .unset, .unset, .unset, .unset, .unset, .unset, .unset, .unset] [(.int (p0 &&& (2 : Int32)))])) (fun t kt => ?_) ?_
    · show Steps p.tables e below (Tj15.setTop (mkF m 17 #[.val (.int p0), .val (.long q1), .second, .val (.long q2), .second, .val (.long q3), .second, .val (.long q4), .second, .val (.long q5), .second, .val (.int v1), .unset, .unset, .unset, .unset, .unset, .unset, .unset, .unset, .unset, .unset, .unset, .unset, .unset, .unset] [])) t
      refine XS.iloadN Xj15.here hx rfl (hb hby at_17) rfl ?_
      show Steps p.tables e below (Tj15.setTop (mkF m 18 #[.val (.int p0), .val (.long q1), .second, .val (.long q2), .second, .val (.long q3), .second, .val (.long q4), .second, .val (.long q5), .second, .val (.int v1), .unset, .unset, .unset, .unset, .unset, .unset, .unset, .unset, .unset, .unset, .unset, .unset, .unset, .unset] [(.int p0)])) t
      refine XS.iconst Xj15.here hx rfl (hb hby at_18) ?_
      show Steps p.tables e below (Tj15.setTop (mkF m 19 #[.val (.int p0), .val (.long q1), .second, .val (.long q2), .second, .val (.long q3), .second, .val (.long q4), .second, .val (.long q5), .second, .val (.int v1), .unset, .unset, .unset, .unset, .unset, .unset, .unset, .unset, .unset, .unset, .unset, .unset, .unset, .unset] [(.int (2 : Int32)), (.int p0)])) t
      refine XS.iand Xj15.here hx rfl (hb hby at_19) rfl ?_
      show Steps p.tables e below (Tj15.setTop (mkF m 20 #[.val (.int p0), .val (.long q1), .second, .val (.long q2), .second, .val (.long q3), .second, .val (.long q4), .second, .val (.long q5), .second, .val (.int v1), .unset, .unset, .unset, .unset, .unset, .unset, .unset, .unset, .unset, .unset, .unset, .unset, .unset, .unset] [(.int (p0 &&& (2 : Int32)))])) t
      exact kt
    by_cases hc20_16 : (p0 &&& (2 : Int32)) = (0 : Int32)
    · refine own_go (T' := Tj15) (f' := (mkF m 30 #[.val (.int p0), .val (.long q1), .second, .val (.long q2), .second, .val (.long q3), .second, .val (.long q4), .second, .val (.long q5), .second, .val (.int v1), .val (.long (0 : Int64)), .second, .unset, .unset, .unset, .unset, .unset, .unset, .unset, .unset, .unset, .unset, .unset, .unset] [])) (fun t kt => ?_) ?_
      · show Steps p.tables e below (Tj15.setTop (mkF m 20 #[.val (.int p0), .val (.long q1), .second, .val (.long q2), .second, .val (.long q3), .second, .val (.long q4), .second, .val (.long q5), .second, .val (.int v1), .unset, .unset, .unset, .unset, .unset, .unset, .unset, .unset, .unset, .unset, .unset, .unset, .unset, .unset] [(.int (p0 &&& (2 : Int32)))])) t
        refine XS.ifYes Xj15.here hx rfl (pc0 := 20) (pc' := 27) rfl (hb hby at_20) rfl ((if0 _ _).trans (teq hc20_16).1) (by decide) (by decide) ?_
        show Steps p.tables e below (Tj15.setTop (mkF m 27 #[.val (.int p0), .val (.long q1), .second, .val (.long q2), .second, .val (.long q3), .second, .val (.long q4), .second, .val (.long q5), .second, .val (.int v1), .unset, .unset, .unset, .unset, .unset, .unset, .unset, .unset, .unset, .unset, .unset, .unset, .unset, .unset] [])) t
        refine XS.lconst Xj15.here hx rfl (hb hby at_27) ?_
        show Steps p.tables e below (Tj15.setTop (mkF m 28 #[.val (.int p0), .val (.long q1), .second, .val (.long q2), .second, .val (.long q3), .second, .val (.long q4), .second, .val (.long q5), .second, .val (.int v1), .unset, .unset, .unset, .unset, .unset, .unset, .unset, .unset, .unset, .unset, .unset, .unset, .unset, .unset] [(.long (0 : Int64))])) t
        refine XS.lstore Xj15.here hx rfl (hb hby at_28) rfl (l' := #[.val (.int p0), .val (.long q1), .second, .val (.long q2), .second, .val (.long q3), .second, .val (.long q4), .second, .val (.long q5), .second, .val (.int v1), .val (.long (0 : Int64)), .second, .unset, .unset, .unset, .unset, .unset, .unset, .unset, .unset, .unset, .unset, .unset, .unset]) rfl ?_
        show Steps p.tables e below (Tj15.setTop (mkF m 30 #[.val (.int p0), .val (.long q1), .second, .val (.long q2), .second, .val (.long q3), .second, .val (.long q4), .second, .val (.long q5), .second, .val (.int v1), .val (.long (0 : Int64)), .second, .unset, .unset, .unset, .unset, .unset, .unset, .unset, .unset, .unset, .unset, .unset, .unset] [])) t
        exact kt
      exact J30 Tj15 _ v1 (0 : Int64) Xj15 Nj15 ej15
    · refine own_go (T' := Tj15) (f' := (mkF m 30 #[.val (.int p0), .val (.long q1), .second, .val (.long q2), .second, .val (.long q3), .second, .val (.long q4), .second, .val (.long q5), .second, .val (.int v1), .val (.long q1), .second, .unset, .unset, .unset, .unset, .unset, .unset, .unset, .unset, .unset, .unset, .unset, .unset] [])) (fun t kt => ?_) ?_
      · show Steps p.tables e below (Tj15.setTop (mkF m 20 #[.val (.int p0), .val (.long q1), .second, .val (.long q2), .second, .val (.long q3), .second, .val (.long q4), .second, .val (.long q5), .second, .val (.int v1), .unset, .unset, .unset, .unset, .unset, .unset, .unset, .unset, .unset, .unset, .unset, .unset, .unset, .unset] [(.int (p0 &&& (2 : Int32)))])) t
        refine XS.ifNo Xj15.here hx rfl (hb hby at_20) rfl ((if0 _ _).trans (feq hc20_16).1) ?_
        show Steps p.tables e below (Tj15.setTop (mkF m 23 #[.val (.int p0), .val (.long q1), .second, .val (.long q2), .second, .val (.long q3), .second, .val (.long q4), .second, .val (.long q5), .second, .val (.int v1), .unset, .unset, .unset, .unset, .unset, .unset, .unset, .unset, .unset, .unset, .unset, .unset, .unset, .unset] [])) t
        refine XS.lloadN Xj15.here hx rfl (hb hby at_23) rfl ?_
        show Steps p.tables e below (Tj15.setTop (mkF m 24 #[.val (.int p0), .val (.long q1), .second, .val (.long q2), .second, .val (.long q3), .second, .val (.long q4), .second, .val (.long q5), .second, .val (.int v1), .unset, .unset, .unset, .unset, .unset, .unset, .unset, .unset, .unset, .unset, .unset, .unset, .unset, .unset] [(.long q1)])) t
        refine XS.goto Xj15.here hx rfl (pc0 := 24) (pc' := 28) rfl (hb hby at_24) (by decide) (by decide) ?_
        show Steps p.tables e below (Tj15.setTop (mkF m 28 #[.val (.int p0), .val (.long q1), .second, .val (.long q2), .second, .val (.long q3), .second, .val (.long q4), .second, .val (.long q5), .second, .val (.int v1), .unset, .unset, .unset, .unset, .unset, .unset, .unset, .unset, .unset, .unset, .unset, .unset, .unset, .unset] [(.long q1)])) t
        refine XS.lstore Xj15.here hx rfl (hb hby at_28) rfl (l' := #[.val (.int p0), .val (.long q1), .second, .val (.long q2), .second, .val (.long q3), .second, .val (.long q4), .second, .val (.long q5), .second, .val (.int v1), .val (.long q1), .second, .unset, .unset, .unset, .unset, .unset, .unset, .unset, .unset, .unset, .unset, .unset, .unset]) rfl ?_
        show Steps p.tables e below (Tj15.setTop (mkF m 30 #[.val (.int p0), .val (.long q1), .second, .val (.long q2), .second, .val (.long q3), .second, .val (.long q4), .second, .val (.long q5), .second, .val (.int v1), .val (.long q1), .second, .unset, .unset, .unset, .unset, .unset, .unset, .unset, .unset, .unset, .unset, .unset, .unset] [])) t
        exact kt
      exact J30 Tj15 _ v1 q1 Xj15 Nj15 ej15
  refine own_go (T' := s₁) (f' := (mkF m 3 #[.val (.int p0), .val (.long q1), .second, .val (.long q2), .second, .val (.long q3), .second, .val (.long q4), .second, .val (.long q5), .second, .unset, .unset, .unset, .unset, .unset, .unset, .unset, .unset, .unset, .unset, .unset, .unset, .unset, .unset, .unset] [(.int (p0 &&& (1 : Int32)))])) (fun t kt => ?_) ?_
  · show Steps p.tables e below (s₁.setTop (mkF m 0 #[.val (.int p0), .val (.long q1), .second, .val (.long q2), .second, .val (.long q3), .second, .val (.long q4), .second, .val (.long q5), .second, .unset, .unset, .unset, .unset, .unset, .unset, .unset, .unset, .unset, .unset, .unset, .unset, .unset, .unset, .unset] [])) t
    refine XS.iloadN X0.here hx rfl (hb hby at_0) rfl ?_
    show Steps p.tables e below (s₁.setTop (mkF m 1 #[.val (.int p0), .val (.long q1), .second, .val (.long q2), .second, .val (.long q3), .second, .val (.long q4), .second, .val (.long q5), .second, .unset, .unset, .unset, .unset, .unset, .unset, .unset, .unset, .unset, .unset, .unset, .unset, .unset, .unset, .unset] [(.int p0)])) t
    refine XS.iconst X0.here hx rfl (hb hby at_1) ?_
    show Steps p.tables e below (s₁.setTop (mkF m 2 #[.val (.int p0), .val (.long q1), .second, .val (.long q2), .second, .val (.long q3), .second, .val (.long q4), .second, .val (.long q5), .second, .unset, .unset, .unset, .unset, .unset, .unset, .unset, .unset, .unset, .unset, .unset, .unset, .unset, .unset, .unset] [(.int (1 : Int32)), (.int p0)])) t
    refine XS.iand X0.here hx rfl (hb hby at_2) rfl ?_
    show Steps p.tables e below (s₁.setTop (mkF m 3 #[.val (.int p0), .val (.long q1), .second, .val (.long q2), .second, .val (.long q3), .second, .val (.long q4), .second, .val (.long q5), .second, .unset, .unset, .unset, .unset, .unset, .unset, .unset, .unset, .unset, .unset, .unset, .unset, .unset, .unset, .unset] [(.int (p0 &&& (1 : Int32)))])) t
    exact kt
  by_cases hc3_17 : (p0 &&& (1 : Int32)) = (0 : Int32)
  · refine own_go (T' := s₁) (f' := (mkF m 17 #[.val (.int p0), .val (.long q1), .second, .val (.long q2), .second, .val (.long q3), .second, .val (.long q4), .second, .val (.long q5), .second, .val (.int (0 : Int32)), .unset, .unset, .unset, .unset, .unset, .unset, .unset, .unset, .unset, .unset, .unset, .unset, .unset, .unset] [])) (fun t kt => ?_) ?_
    · show Steps p.tables e below (s₁.setTop (mkF m 3 #[.val (.int p0), .val (.long q1), .second, .val (.long q2), .second, .val (.long q3), .second, .val (.long q4), .second, .val (.long q5), .second, .unset, .unset, .unset, .unset, .unset, .unset, .unset, .unset, .unset, .unset, .unset, .unset, .unset, .unset, .unset] [(.int (p0 &&& (1 : Int32)))])) t
      refine XS.ifYes X0.here hx rfl (pc0 := 3) (pc' := 14) rfl (hb hby at_3) rfl ((if0 _ _).trans (teq hc3_17).1) (by decide) (by decide) ?_
      show Steps p.tables e below (s₁.setTop (mkF m 14 #[.val (.int p0), .val (.long q1), .second, .val (.long q2), .second, .val (.long q3), .second, .val (.long q4), .second, .val (.long q5), .second, .unset, .unset, .unset, .unset, .unset, .unset, .unset, .unset, .unset, .unset, .unset, .unset, .unset, .unset, .unset] [])) t
      refine XS.iconst X0.here hx rfl (hb hby at_14) ?_
      show Steps p.tables e below (s₁.setTop (mkF m 15 #[.val (.int p0), .val (.long q1), .second, .val (.long q2), .second, .val (.long q3), .second, .val (.long q4), .second, .val (.long q5), .second, .unset, .unset, .unset, .unset, .unset, .unset, .unset, .unset, .unset, .unset, .unset, .unset, .unset, .unset, .unset] [(.int (0 : Int32))])) t
      refine XS.istore X0.here hx rfl (hb hby at_15) rfl (l' := #[.val (.int p0), .val (.long q1), .second, .val (.long q2), .second, .val (.long q3), .second, .val (.long q4), .second, .val (.long q5), .second, .val (.int (0 : Int32)), .unset, .unset, .unset, .unset, .unset, .unset, .unset, .unset, .unset, .unset, .unset, .unset, .unset, .unset]) rfl ?_
      show Steps p.tables e below (s₁.setTop (mkF m 17 #[.val (.int p0), .val (.long q1), .second, .val (.long q2), .second, .val (.long q3), .second, .val (.long q4), .second, .val (.long q5), .second, .val (.int (0 : Int32)), .unset, .unset, .unset, .unset, .unset, .unset, .unset, .unset, .unset, .unset, .unset, .unset, .unset, .unset] [])) t
      exact kt
    exact J17 s₁ _ (0 : Int32) X0 N0 e0
  · refine own_go (T' := s₁) (f' := (mkF m 17 #[.val (.int p0), .val (.long q1), .second, .val (.long q2), .second, .val (.long q3), .second, .val (.long q4), .second, .val (.long q5), .second, .val (.int ((q1 >>> ((32 : Int32) &&& 0x3f).toInt64).toInt32)), .unset, .unset, .unset, .unset, .unset, .unset, .unset, .unset, .unset, .unset, .unset, .unset, .unset, .unset] [])) (fun t kt => ?_) ?_
    · show Steps p.tables e below (s₁.setTop (mkF m 3 #[.val (.int p0), .val (.long q1), .second, .val (.long q2), .second, .val (.long q3), .second, .val (.long q4), .second, .val (.long q5), .second, .unset, .unset, .unset, .unset, .unset, .unset, .unset, .unset, .unset, .unset, .unset, .unset, .unset, .unset, .unset] [(.int (p0 &&& (1 : Int32)))])) t
      refine XS.ifNo X0.here hx rfl (hb hby at_3) rfl ((if0 _ _).trans (feq hc3_17).1) ?_
      show Steps p.tables e below (s₁.setTop (mkF m 6 #[.val (.int p0), .val (.long q1), .second, .val (.long q2), .second, .val (.long q3), .second, .val (.long q4), .second, .val (.long q5), .second, .unset, .unset, .unset, .unset, .unset, .unset, .unset, .unset, .unset, .unset, .unset, .unset, .unset, .unset, .unset] [])) t
      refine XS.lloadN X0.here hx rfl (hb hby at_6) rfl ?_
      show Steps p.tables e below (s₁.setTop (mkF m 7 #[.val (.int p0), .val (.long q1), .second, .val (.long q2), .second, .val (.long q3), .second, .val (.long q4), .second, .val (.long q5), .second, .unset, .unset, .unset, .unset, .unset, .unset, .unset, .unset, .unset, .unset, .unset, .unset, .unset, .unset, .unset] [(.long q1)])) t
      refine XS.bipush X0.here hx rfl (hb hby at_7) ?_
      show Steps p.tables e below (s₁.setTop (mkF m 9 #[.val (.int p0), .val (.long q1), .second, .val (.long q2), .second, .val (.long q3), .second, .val (.long q4), .second, .val (.long q5), .second, .unset, .unset, .unset, .unset, .unset, .unset, .unset, .unset, .unset, .unset, .unset, .unset, .unset, .unset, .unset] [(.int (32 : Int32)), (.long q1)])) t
      refine XS.lshr X0.here hx rfl (hb hby at_9) rfl ?_
      show Steps p.tables e below (s₁.setTop (mkF m 10 #[.val (.int p0), .val (.long q1), .second, .val (.long q2), .second, .val (.long q3), .second, .val (.long q4), .second, .val (.long q5), .second, .unset, .unset, .unset, .unset, .unset, .unset, .unset, .unset, .unset, .unset, .unset, .unset, .unset, .unset, .unset] [(.long (q1 >>> ((32 : Int32) &&& 0x3f).toInt64))])) t
      refine XS.l2i X0.here hx rfl (hb hby at_10) rfl ?_
      show Steps p.tables e below (s₁.setTop (mkF m 11 #[.val (.int p0), .val (.long q1), .second, .val (.long q2), .second, .val (.long q3), .second, .val (.long q4), .second, .val (.long q5), .second, .unset, .unset, .unset, .unset, .unset, .unset, .unset, .unset, .unset, .unset, .unset, .unset, .unset, .unset, .unset] [(.int ((q1 >>> ((32 : Int32) &&& 0x3f).toInt64).toInt32))])) t
      refine XS.goto X0.here hx rfl (pc0 := 11) (pc' := 15) rfl (hb hby at_11) (by decide) (by decide) ?_
      show Steps p.tables e below (s₁.setTop (mkF m 15 #[.val (.int p0), .val (.long q1), .second, .val (.long q2), .second, .val (.long q3), .second, .val (.long q4), .second, .val (.long q5), .second, .unset, .unset, .unset, .unset, .unset, .unset, .unset, .unset, .unset, .unset, .unset, .unset, .unset, .unset, .unset] [(.int ((q1 >>> ((32 : Int32) &&& 0x3f).toInt64).toInt32))])) t
      refine XS.istore X0.here hx rfl (hb hby at_15) rfl (l' := #[.val (.int p0), .val (.long q1), .second, .val (.long q2), .second, .val (.long q3), .second, .val (.long q4), .second, .val (.long q5), .second, .val (.int ((q1 >>> ((32 : Int32) &&& 0x3f).toInt64).toInt32)), .unset, .unset, .unset, .unset, .unset, .unset, .unset, .unset, .unset, .unset, .unset, .unset, .unset, .unset]) rfl ?_
      show Steps p.tables e below (s₁.setTop (mkF m 17 #[.val (.int p0), .val (.long q1), .second, .val (.long q2), .second, .val (.long q3), .second, .val (.long q4), .second, .val (.long q5), .second, .val (.int ((q1 >>> ((32 : Int32) &&& 0x3f).toInt64).toInt32)), .unset, .unset, .unset, .unset, .unset, .unset, .unset, .unset, .unset, .unset, .unset, .unset, .unset, .unset] [])) t
      exact kt
    exact J17 s₁ _ ((q1 >>> ((32 : Int32) &&& 0x3f).toInt64).toInt32) X0 N0 e0
set_option maxRecDepth 65536 in
set_option maxHeartbeats 40000000 in
theorem comes_1 {Post : Tables → Env → Array Value → State → Outcome → State → Prop} (hpost : ∀ tb e args s v u, (limb_1_1.after args s (.returned v) u = true ∧ limb_1_2.after args s (.returned v) u = true ∧ True) → FrameEnd s (.returned v) u (Jvm.fieldLocs frame_1_writes args s ++ Jvm.arrayLocs frame_1_arrays args s ++ Jvm.staticLocs frame_1_statics s) 16 128 → Post tb e args s (.returned v) u) :
    ArmFor flags0 classFile x code maxLocals ret World_1 tables_1 room_1 Calls_1 rest_1 Pre_1 Post := by
  intro l hfl _ _ p e ha hc hk s m args below hf hA hF happ hP
  obtain ⟨hcalls, hrest, hpre⟩ := hP
  obtain ⟨-, -, -, hnamed, -, -, -, hat⟩ := (Spec.applies_iff hf).mp happ
  obtain ⟨hg, hn⟩ := and_e (Cond.before_iff.mp (show (Jvm.Cond.and given_1 narrow_1).before args s = true from hpre))
  obtain ⟨k1, k2⟩ := and_e hg
  obtain ⟨k3, k4⟩ := and_e k2
  obtain ⟨k5, k6⟩ := and_e k4
  obtain ⟨k7, k8⟩ := and_e k6
  obtain ⟨k9, k10⟩ := and_e k8
  obtain ⟨k11, k12⟩ := and_e k10
  obtain ⟨w0, w1, w2, w3, w4, w5, rfl⟩ : ∃ w0 w1 w2 w3 w4 w5 : Value, args = #[w0, w1, w2, w3, w4, w5] := by
    have hs : args.size = 6 := by simpa [Cond.value, given_1] using k1
    obtain ⟨L⟩ := args
    match L, hs with
    | [w0, w1, w2, w3, w4, w5], _ => exact ⟨w0, w1, w2, w3, w4, w5, rfl⟩
  have hw := fun d (hd : d ∈ tables_1) => atoms_spec (ws := Jvm.Cond.code x code maxLocals ret :: tables_1) hat d (List.mem_cons_of_mem _ hd)
  obtain ⟨i0, ei0⟩ := is_v k3
  obtain rfl : w0 = (.int i0) := Option.some.inj ei0
  obtain ⟨i1, ei1⟩ := isL_v k5
  obtain rfl : w1 = (.long i1) := Option.some.inj ei1
  obtain ⟨i2, ei2⟩ := isL_v k7
  obtain rfl : w2 = (.long i2) := Option.some.inj ei2
  obtain ⟨i3, ei3⟩ := isL_v k9
  obtain rfl : w3 = (.long i3) := Option.some.inj ei3
  obtain ⟨i4, ei4⟩ := isL_v k11
  obtain rfl : w4 = (.long i4) := Option.some.inj ei4
  obtain ⟨i5, ei5⟩ := isL_v k12
  obtain rfl : w5 = (.long i5) := Option.some.inj ei5
  obtain ⟨n, o, h1, h2, h3, _, L, rfl, ⟨rfl, N⟩, hq⟩ := rm0 l s _ hw (ws := tables_1) i0 i1 i2 i3 i4 i5 s.heap s.heap.size (Nat.le_refl _)  p e ha hc hk s m _ below hf ((Spec.applies_iff_loose hf).mp happ).1 ⟨rfl, State.Warmed39.refl s, rfl⟩ trivial
  refine ⟨n, _, h1, h2, h3, hpost _ _ _ _ _ _ ⟨Cond.after_iff.mpr rfl, Cond.after_iff.mpr (eq_i res_at (Term.int_eval (1)) rfl), trivial⟩ ⟨hq.1, hq.2.1, (hq.2.2.sift fun y hy => Or.inr (N y hy)).mono (by decide) (by decide)⟩⟩
theorem main_1_1 : Claimed_1_1 := comes_1 fun _ _ _ _ _ _ h hF => ⟨h.1, hF⟩
theorem main_1_2 : Claimed_1_2 := comes_1 fun _ _ _ _ _ _ h hF => ⟨h.2.1, hF⟩
end Jvm.Pilot.@@N@@
namespace Jvm.Pilot.@@N@@
open Jvm Jvm.ClassFile Sem Op Lib Jvm.Free Jvm.Stand Jvm.Pilot.@@N@@.Jvm.D
/-! MADE BY PROGRAM (witnessworld.py) out of the Statement's table words and the real class files: 11 classes; the members and pool entries that the words name. The judged class is class 1, her method 1. -/
namespace start1
open Jvm.ClassFile
def u (s : String) : CpInfo := .utf8 (stringToUtf16 s)
/-- a pool by its gaps: so many unusable entries, then the entry; so many at the end -/
def gap : Nat → List CpInfo → List CpInfo
  | 0, r => r
  | n + 1, r => .unusable :: gap n r
def poolList (es : List (Nat × CpInfo)) (last : Nat) : List CpInfo := es.foldr (fun e r => gap e.1 (e.2 :: r)) (gap last [])
def pool (es : List (Nat × CpInfo)) (last : Nat) : Array CpInfo := ⟨poolList es last⟩
def fileOf (pool : Array CpInfo) (this : Nat) (attrs : Array Attribute := #[]) (ms : Array MethodInfo := #[]) (fl : Nat := 33) (sup : Nat := 0) (ifs : Array Nat := #[]) (fds : Array FieldInfo := #[]) : ClassFile where
  minorVersion := 0
  majorVersion := 65
  constantPool := pool
  accessFlags := fl
  thisClass := this
  superClass := sup
  interfaces := ifs
  fields := fds
  methods := ms
  attributes := attrs
def plain (name : String) (sup : Option ClassId) : Class where
  name := name
  kind := .ordinary
  loader := none
  accessFlags := 33
  super := sup
  interfaces := #[]
  cf := none
  fields := #[]
  methods := #[]
  instanceTypes := #[]
  staticTypes := #[]
  resolved := #[]
  callSites := []
  init := .initialized
  statics := none
  mirror := none

def pool0 : Array CpInfo := pool [(5, u "<init>"), (0, u "()V"), (1, .class_ 10), (1, u "java/lang/Object")] 113

def k0c0 : Code := { maxStack := 0, maxLocals := 1, code := object_method_1_code, exceptionTable := #[], attributes := #[] }
def k0m0 : Method := { name := "<init>", desc := "()V", sig := { parameters := [], returnType := none }, accessFlags := 1, code := some k0c0 }
/-- java/lang/Object -/
def k0 : Class := { plain "java/lang/Object" none with
  accessFlags := 33
  interfaces := #[]
  cf := some (fileOf pool0 8 #[] #[{ accessFlags := 1, nameIndex := 5, descriptorIndex := 6, attributes := #[] }] 33 0 #[] #[])
  fields := #[]
  methods := #[k0m0]
  instanceTypes := #[]
  staticTypes := #[]
  resolved := Array.replicate 124 none
  statics := none }

def pool1 : Array CpInfo := pool [(2, .class_ 4), (1, u "java/lang/Object"), (0, u "<init>"), (0, u "()V"), (0, .class_ 8), (0, u "com/example/slotwise/slotwise/Itc2007Score"), (0, .long 18446744073709551615), (1, .methodref 7 12), (0, .nameAndType 5 13), (0, u "(IJJJJJJJJJJJJ)V"), (0, .methodref 7 15), (0, .nameAndType 16 17), (0, u "feasible"), (0, u "()Z"), (0, .class_ 19), (0, u "com/example/slotwise/slotwise/Itc2007ScoreFeasiblePinLaw"), (2, u "law"), (0, u "(IJJJJJ)Z")] 3

def k1m0 : Method := { name := "<init>", desc := "()V", sig := { parameters := [], returnType := none }, accessFlags := 1, code := none }
def k1c1 : Code := { maxStack := 27, maxLocals := 26, code := code, exceptionTable := #[], attributes := #[] }
def k1m1 : Method := { name := "law", desc := "(IJJJJJ)Z", sig := { parameters := [.int, .long, .long, .long, .long, .long], returnType := some .boolean }, accessFlags := 9, code := some k1c1 }
/-- com/example/slotwise/slotwise/Itc2007ScoreFeasiblePinLaw -/
def k1 : Class := { plain "com/example/slotwise/slotwise/Itc2007ScoreFeasiblePinLaw" (some 0) with
  accessFlags := 49
  interfaces := #[]
  cf := some (fileOf pool1 18 #[] #[{ accessFlags := 1, nameIndex := 5, descriptorIndex := 6, attributes := #[] }, { accessFlags := 9, nameIndex := 22, descriptorIndex := 23, attributes := #[] }] 49 2 #[] #[])
  fields := #[]
  methods := #[k1m0, k1m1]
  instanceTypes := #[]
  staticTypes := #[]
  resolved := Array.replicate 27 none
  statics := none }

def pool2 : Array CpInfo := pool [(1, .methodref 2 3), (0, .class_ 4), (0, .nameAndType 5 6), (0, u "java/lang/Object"), (0, u "<init>"), (0, u "()V"), (0, .class_ 8), (0, u "java/lang/Record")] 13

def k2c0 : Code := { maxStack := 1, maxLocals := 1, code := jdk_30_method_1_code, exceptionTable := #[], attributes := #[] }
def k2m0 : Method := { name := "<init>", desc := "()V", sig := { parameters := [], returnType := none }, accessFlags := 4, code := some k2c0 }
/-- java/lang/Record -/
def k2 : Class := { plain "java/lang/Record" (some 0) with
  accessFlags := 1057
  interfaces := #[]
  cf := some (fileOf pool2 7 #[] #[{ accessFlags := 4, nameIndex := 5, descriptorIndex := 6, attributes := #[] }] 1057 2 #[] #[])
  fields := #[]
  methods := #[k2m0]
  instanceTypes := #[]
  staticTypes := #[]
  resolved := Array.replicate 22 none
  statics := none }

def pool3 : Array CpInfo := pool [(1, .class_ 2), (0, u "com/example/slotwise/slotwise/Score"), (0, .class_ 4), (0, u "java/lang/Object")] 10

/-- com/example/slotwise/slotwise/Score -/
def k3 : Class := { plain "com/example/slotwise/slotwise/Score" (some 0) with
  accessFlags := 1536
  interfaces := #[]
  cf := some (fileOf pool3 1 #[] #[] 1536 3 #[] #[])
  fields := #[]
  methods := #[]
  instanceTypes := #[]
  staticTypes := #[]
  resolved := Array.replicate 15 none
  statics := none }

def pool4 : Array CpInfo := pool [(1, .methodref 2 3), (0, .class_ 4), (0, .nameAndType 5 6), (0, u "java/lang/Record"), (0, u "<init>"), (0, u "()V"), (0, .fieldref 8 9), (0, .class_ 10), (0, .nameAndType 11 12), (0, u "com/example/slotwise/slotwise/Itc2007Score"), (0, u "unplaced"), (0, u "I"), (0, .fieldref 8 14), (0, .nameAndType 15 16), (0, u "conflicts"), (0, u "J"), (0, .fieldref 8 18), (0, .nameAndType 19 16), (0, u "roomOccupancy"), (0, .fieldref 8 21), (0, .nameAndType 22 16), (0, u "periodUtilisation"), (0, .fieldref 8 24), (0, .nameAndType 25 16), (0, u "periodRelated"), (0, .fieldref 8 27), (0, .nameAndType 28 16), (0, u "roomRelated"), (0, .fieldref 8 30), (0, .nameAndType 31 16), (0, u "twoInARow"), (0, .fieldref 8 33), (0, .nameAndType 34 16), (0, u "twoInADay"), (0, .fieldref 8 36), (0, .nameAndType 37 16), (0, u "periodSpread"), (0, .fieldref 8 39), (0, .nameAndType 40 16), (0, u "mixedDurations"), (0, .fieldref 8 42), (0, .nameAndType 43 16), (0, u "frontLoad"), (0, .fieldref 8 45), (0, .nameAndType 46 16), (0, u "roomPenalty"), (0, .fieldref 8 48), (0, .nameAndType 49 16), (0, u "periodPenalty"), (46, .class_ 97), (0, u "com/example/slotwise/slotwise/Itc2007Score$Scoring"), (33, u "(IJJJJJJJJJJJJ)V"), (2, u "feasible"), (0, u "()Z"), (112, .class_ 249), (0, u "com/example/slotwise/slotwise/Score"), (20, .class_ 271), (0, u "com/example/slotwise/slotwise/Itc2007Score$PairCost")] 91

def k4c0 : Code := { maxStack := 3, maxLocals := 26, code := prog_21_method_1_code, exceptionTable := #[], attributes := #[] }
def k4m0 : Method := { name := "<init>", desc := "(IJJJJJJJJJJJJ)V", sig := { parameters := [.int, .long, .long, .long, .long, .long, .long, .long, .long, .long, .long, .long, .long], returnType := none }, accessFlags := 0, code := some k4c0 }
def k4c1 : Code := { maxStack := 4, maxLocals := 1, code := prog_21_method_3_code, exceptionTable := #[], attributes := #[] }
def k4m1 : Method := { name := "feasible", desc := "()Z", sig := { parameters := [], returnType := some .boolean }, accessFlags := 1, code := some k4c1 }
/-- com/example/slotwise/slotwise/Itc2007Score -/
def k4 : Class := { plain "com/example/slotwise/slotwise/Itc2007Score" (some 2) with
  accessFlags := 48
  interfaces := #[3]
  cf := some (fileOf pool4 8 #[.nestMembers #[96, 270]] #[{ accessFlags := 0, nameIndex := 5, descriptorIndex := 131, attributes := #[] }, { accessFlags := 1, nameIndex := 134, descriptorIndex := 135, attributes := #[] }] 48 2 #[248] #[{ accessFlags := 18, nameIndex := 11, descriptorIndex := 12, attributes := #[] }, { accessFlags := 18, nameIndex := 15, descriptorIndex := 16, attributes := #[] }, { accessFlags := 18, nameIndex := 19, descriptorIndex := 16, attributes := #[] }, { accessFlags := 18, nameIndex := 22, descriptorIndex := 16, attributes := #[] }, { accessFlags := 18, nameIndex := 25, descriptorIndex := 16, attributes := #[] }, { accessFlags := 18, nameIndex := 28, descriptorIndex := 16, attributes := #[] }, { accessFlags := 18, nameIndex := 31, descriptorIndex := 16, attributes := #[] }, { accessFlags := 18, nameIndex := 34, descriptorIndex := 16, attributes := #[] }, { accessFlags := 18, nameIndex := 37, descriptorIndex := 16, attributes := #[] }, { accessFlags := 18, nameIndex := 40, descriptorIndex := 16, attributes := #[] }, { accessFlags := 18, nameIndex := 43, descriptorIndex := 16, attributes := #[] }, { accessFlags := 18, nameIndex := 46, descriptorIndex := 16, attributes := #[] }, { accessFlags := 18, nameIndex := 49, descriptorIndex := 16, attributes := #[] }])
  fields := #[{ name := "unplaced", type := .int, accessFlags := 18, slot := 0, constantValue := 0 }, { name := "conflicts", type := .long, accessFlags := 18, slot := 1, constantValue := 0 }, { name := "roomOccupancy", type := .long, accessFlags := 18, slot := 2, constantValue := 0 }, { name := "periodUtilisation", type := .long, accessFlags := 18, slot := 3, constantValue := 0 }, { name := "periodRelated", type := .long, accessFlags := 18, slot := 4, constantValue := 0 }, { name := "roomRelated", type := .long, accessFlags := 18, slot := 5, constantValue := 0 }, { name := "twoInARow", type := .long, accessFlags := 18, slot := 6, constantValue := 0 }, { name := "twoInADay", type := .long, accessFlags := 18, slot := 7, constantValue := 0 }, { name := "periodSpread", type := .long, accessFlags := 18, slot := 8, constantValue := 0 }, { name := "mixedDurations", type := .long, accessFlags := 18, slot := 9, constantValue := 0 }, { name := "frontLoad", type := .long, accessFlags := 18, slot := 10, constantValue := 0 }, { name := "roomPenalty", type := .long, accessFlags := 18, slot := 11, constantValue := 0 }, { name := "periodPenalty", type := .long, accessFlags := 18, slot := 12, constantValue := 0 }]
  methods := #[k4m0, k4m1]
  instanceTypes := #[.int, .long, .long, .long, .long, .long, .long, .long, .long, .long, .long, .long, .long]
  staticTypes := #[]
  resolved := Array.replicate 363 none
  statics := none }

def pool5 : Array CpInfo := pool [(1, u "java/lang/Cloneable"), (0, .class_ 1), (0, u "java/lang/Object"), (0, .class_ 3)] 3

/-- java/lang/Cloneable -/
def k5 : Class := { plain "java/lang/Cloneable" (some 0) with
  accessFlags := 1537
  interfaces := #[]
  cf := some (fileOf pool5 2 #[] #[] 1537 4 #[] #[])
  fields := #[]
  methods := #[]
  instanceTypes := #[]
  staticTypes := #[]
  resolved := Array.replicate 8 none
  statics := none }

def pool6 : Array CpInfo := pool [(1, u "java/io/Serializable"), (0, .class_ 1), (0, u "java/lang/Object"), (0, .class_ 3)] 3

/-- java/io/Serializable -/
def k6 : Class := { plain "java/io/Serializable" (some 0) with
  accessFlags := 1537
  interfaces := #[]
  cf := some (fileOf pool6 2 #[] #[] 1537 4 #[] #[])
  fields := #[]
  methods := #[]
  instanceTypes := #[]
  staticTypes := #[]
  resolved := Array.replicate 8 none
  statics := none }

/-- the primitive byte -/
def k7 : Class := { plain "byte" none with kind := .primitive 'B', accessFlags := 0x411 }
/-- [B -/
def k8 : Class := { plain "[B" (some 0) with kind := .array 7 .byte, interfaces := #[5, 6], accessFlags := 1041 }

/-- the primitive int -/
def k9 : Class := { plain "int" none with kind := .primitive 'I', accessFlags := 0x411 }
/-- [I -/
def k10 : Class := { plain "[I" (some 0) with kind := .array 9 .int, interfaces := #[5, 6], accessFlags := 1041 }

def heap : Heap := #[]
def classes : Array Class := #[k0, k1, k2, k3, k4, k5, k6, k7, k8, k9, k10]
def interned : List (Array UInt16 × Addr) := []
def slotsUsed : Nat := 0
def theMethod : MethodId := ⟨1, 1⟩
def args0 : Array Value := #[.int 5, .long 0, .long 1, .long 2, .long 3, .long 4]
def aboutOver (below : List Frame) : State where
  vm := { classes := classes, interned := interned.toArray }
  heap := heap
  slotsUsed := slotsUsed
  threads := #[{ frames := .invoking theMethod args0 :: below }]
def below0 : List Frame := [.native { method := ⟨0, 0⟩, args := #[] }]
def about1 : State := aboutOver below0
def p0 : Program := .bare "" "" ""
def e0 : Env := launch0.env 0 0 0
theorem w_frames : about1.frames = Frame.invoking theMethod args0 :: below0 := rfl
set_option maxRecDepth 65536 in
theorem w_args : argsFit about1.vm theMethod args0 = true := by decide +kernel
set_option maxRecDepth 65536 in
theorem w_heap : heapFits about1 = true := by decide +kernel
set_option maxRecDepth 65536 in
theorem w_runnable : about1.curStatus? = some .runnable := by decide +kernel
set_option maxRecDepth 65536 in
theorem w_alone : about1.alone = true := by decide +kernel
set_option maxRecDepth 65536 in
theorem w_named : about1.methodNamed? x = some theMethod := by decide +kernel
set_option maxRecDepth 65536 in
theorem w_hears : about1.hears theMethod below0 = true := by decide +kernel
set_option maxRecDepth 65536 in
theorem w_ripe : about1.ripe theMethod args0 below0 = true := by decide +kernel
theorem w_running : about1.status = .running := rfl
set_option maxRecDepth 65536 in
theorem w_room : about1.hasRoom e0.platform room_1 = true :=
  launch0.hasRoom_least _ room_1 (by decide +kernel) (by decide +kernel) (by decide +kernel) (by decide +kernel) (by decide +kernel) (by decide +kernel)
theorem allAtoms_all (ts : List Jvm.Cond) (a : Array Jvm.Value) (st : Jvm.State) : (allAtoms ts).before a st = ts.all (fun c => c.before a st) := by
  induction ts with
  | nil => rfl
  | cons c t ih =>
    show (Jvm.Cond.and c (allAtoms t)).before a st = _
    rw [Jvm.Cond.before_and, ih, List.all_cons]
def words1 : List Jvm.Cond := Jvm.Cond.code x code maxLocals ret :: tables_1
/-- a 'code' word, met by the world's own term for the bytes: nothing is compared byte by byte -/
theorem code_word {y : MethodName} {bytes : ByteArray} {mx : Nat} {rt : Option FieldType} {a : Array Value} {s : State} {m : MethodId} {meth : Method} {c : Code} (h1 : s.methodNamed? y = some m) (h2 : s.vm.method? m = some meth) (h3 : meth.code = some c) (h4 : c.code = bytes)
    (h5 : (c.maxLocals == mx && c.exceptionTable.isEmpty && decide (c.maxStack ≤ mostOperands) && decide (meth.sig.returnType = rt) && !meth.locks && decide (parseMethodDescriptor y.desc = some meth.sig)) = true) : (Jvm.Cond.code y bytes mx rt).before a s = true := by
  simp only [Bool.and_eq_true, beq_iff_eq, Bool.not_eq_true', decide_eq_true_eq] at h5
  obtain ⟨⟨⟨⟨⟨g1, g2⟩, g3⟩, g4⟩, g5⟩, g6⟩ := h5
  simp [Cond.before, Cond.holds, Cond.value, h1, h2, h3, h4, g1, g2, g3, g4, g5, g6]
def isCode : Jvm.Cond → Bool
  | .code _ _ _ _ => true
  | _ => false
theorem all_split {L : List Jvm.Cond} {P : Jvm.Cond → Bool} (h1 : L.all (fun c => isCode c || P c) = true) (h2 : ∀ c ∈ L.filter isCode, P c = true) : L.all P = true := by
  refine List.all_eq_true.mpr fun c hc => ?_
  have h := List.all_eq_true.mp h1 c hc
  rcases Bool.eq_false_or_eq_true (isCode c) with hi | hi
  · exact h2 c (List.mem_filter.mpr ⟨hc, hi⟩)
  · simpa [hi] using h
set_option maxRecDepth 65536 in
theorem w_c0 : (Jvm.Cond.code x code maxLocals ret).before args0 about1 = true := code_word (m := ⟨1, 1⟩) (meth := k1m1) (c := k1c1) (by decide +kernel) rfl rfl rfl (by decide +kernel)
set_option maxRecDepth 65536 in
theorem w_c1 : (Jvm.Cond.code ({ cls := "com/example/slotwise/slotwise/Itc2007Score", name := "<init>", desc := "(IJJJJJJJJJJJJ)V" } : Jvm.MethodName) prog_21_method_1_code (26 : Nat) (Option.none : Option Jvm.ClassFile.FieldType)).before args0 about1 = true := code_word (m := ⟨4, 0⟩) (meth := k4m0) (c := k4c0) (by decide +kernel) rfl rfl rfl (by decide +kernel)
set_option maxRecDepth 65536 in
theorem w_c2 : (Jvm.Cond.code ({ cls := "java/lang/Record", name := "<init>", desc := "()V" } : Jvm.MethodName) jdk_30_method_1_code (1 : Nat) (Option.none : Option Jvm.ClassFile.FieldType)).before args0 about1 = true := code_word (m := ⟨2, 0⟩) (meth := k2m0) (c := k2c0) (by decide +kernel) rfl rfl rfl (by decide +kernel)
set_option maxRecDepth 65536 in
theorem w_c3 : (Jvm.Cond.code ({ cls := "java/lang/Object", name := "<init>", desc := "()V" } : Jvm.MethodName) object_method_1_code (1 : Nat) (Option.none : Option Jvm.ClassFile.FieldType)).before args0 about1 = true := code_word (m := ⟨0, 0⟩) (meth := k0m0) (c := k0c0) (by decide +kernel) rfl rfl rfl (by decide +kernel)
set_option maxRecDepth 65536 in
theorem w_c4 : (Jvm.Cond.code ({ cls := "com/example/slotwise/slotwise/Itc2007Score", name := "feasible", desc := "()Z" } : Jvm.MethodName) prog_21_method_3_code (1 : Nat) (Option.some Jvm.ClassFile.FieldType.boolean)).before args0 about1 = true := code_word (m := ⟨4, 1⟩) (meth := k4m1) (c := k4c1) (by decide +kernel) rfl rfl rfl (by decide +kernel)
def codes1 : List Jvm.Cond := [Jvm.Cond.code x code maxLocals ret, Jvm.Cond.code ({ cls := "com/example/slotwise/slotwise/Itc2007Score", name := "<init>", desc := "(IJJJJJJJJJJJJ)V" } : Jvm.MethodName) prog_21_method_1_code (26 : Nat) (Option.none : Option Jvm.ClassFile.FieldType), Jvm.Cond.code ({ cls := "java/lang/Record", name := "<init>", desc := "()V" } : Jvm.MethodName) jdk_30_method_1_code (1 : Nat) (Option.none : Option Jvm.ClassFile.FieldType), Jvm.Cond.code ({ cls := "java/lang/Object", name := "<init>", desc := "()V" } : Jvm.MethodName) object_method_1_code (1 : Nat) (Option.none : Option Jvm.ClassFile.FieldType), Jvm.Cond.code ({ cls := "com/example/slotwise/slotwise/Itc2007Score", name := "feasible", desc := "()Z" } : Jvm.MethodName) prog_21_method_3_code (1 : Nat) (Option.some Jvm.ClassFile.FieldType.boolean)]
set_option maxRecDepth 65536 in
theorem codes_eq : words1.filter isCode = codes1 := rfl
theorem w_codes : ∀ c ∈ words1.filter isCode, c.before args0 about1 = true := by
  rw [codes_eq]
  intro c hc
  simp only [codes1, List.mem_cons, List.not_mem_nil, or_false] at hc
  rcases hc with rfl | rfl | rfl | rfl | rfl
  · exact w_c0
  · exact w_c1
  · exact w_c2
  · exact w_c3
  · exact w_c4
set_option maxRecDepth 65536 in
theorem w_t1 : (words1.take 24).all (fun c => isCode c || c.before args0 about1) = true := by decide +kernel
set_option maxRecDepth 65536 in
theorem w_t2 : (words1.drop 24).all (fun c => isCode c || c.before args0 about1) = true := by decide +kernel
theorem w_tables : (allAtoms (Jvm.Cond.code x code maxLocals ret :: tables_1)).before args0 about1 = true := by
  rw [allAtoms_all]
  show words1.all (fun c => c.before args0 about1) = true
  refine all_split ?_ w_codes
  rw [← List.take_append_drop 24 words1, List.all_append, w_t1, w_t2]
  rfl
set_option maxRecDepth 65536 in
theorem w_case : (Jvm.Cond.and given_1 narrow_1).before args0 about1 = true := by decide +kernel
theorem w_applies : (headSpec (Jvm.Cond.code x code maxLocals ret :: tables_1) room_1).applies x e0.platform about1 = true :=
  (Spec.applies_iff w_frames).mpr ⟨w_running, w_runnable, w_alone, w_named, w_hears, w_ripe, w_room, w_tables⟩
theorem atStart : AtStart classFile x code maxLocals ret World_1 tables_1 room_1 Calls_1 rest_1 Pre_1 launch0 p0 e0 about1 theMethod args0 below0 :=
  ⟨lists_1, trivial, launch0.admits_env _ _ _, launch0.least_env, fairChoices_fair.cas, fairChoices_fair.clock, w_frames, w_args, w_heap, w_applies, trivial, trivial, w_case⟩
end start1
theorem witness_1 : WitnessClaimed_1 := ⟨start1.p0, start1.e0, start1.about1, start1.theMethod, start1.args0, start1.below0, start1.atStart⟩
end Jvm.Pilot.@@N@@
