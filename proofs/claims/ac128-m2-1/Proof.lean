import JvmDerived
import JvmDerived.Pilot.@@N@@Statement
import JvmDerived.Pilot.@@N@@Code
set_option linter.unusedVariables false
set_option linter.unusedSimpArgs false
@@BLOCK:NumsL.lean.txt@@
namespace Jvm.Pilot.@@N@@
open Jvm Jvm.ClassFile Sem Op Lib Jvm.Free Jvm.Stand Jvm.LawKit Jvm.RoadKit Bundle Jvm.Pilot.@@N@@.Jvm.D
/-! own layer: the run from here ends, and Q holds of what it returned, of the heap and of the places written -/
def own_End (p : Program) (e : Env) (below : List Frame) (P : State → Outcome → Prop) (T : State) (f : JFrame) : Prop := ∃ s₂ o, Steps p.tables e below (T.setTop f) s₂ ∧ P s₂ o
def own_P (below : List Frame) (s : State) (Q : Option Value → Heap → List Loc → Prop) (kc ns : Nat) : State → Outcome → Prop := fun s₂ o => s₂.status = .running ∧ Ended s₂ below o ∧ ∃ v L, o = .returned v ∧ Q v s₂.heap L ∧ FrameEnd s o s₂ L kc ns
def own_Met (l : Launch) (Z : State) (y : MethodName) (bytes : ByteArray) (maxL : Nat) (ret : Option FieldType) (ws : List Jvm.Cond) (rm : Room) (as' : Array Value) (h : Heap) (Q : Option Value → Heap → List Loc → Prop) : Prop :=
  MetFree l y (head1 (Jvm.Cond.code y bytes maxL ret :: ws) rm) (fun a U => a = as' ∧ Z.Warmed39 U.vm ∧ U.heap = h) (fun _ _ _ _ _ => True) (fun _ U o U' => ∃ v L, o = .returned v ∧ Q v U'.heap L ∧ FrameEnd U o U' L rm.cells rm.slots)
section OwnSteps
variable {p : Program} {l : Launch} {e : Env} {R : Room} {s : State} {m : MethodId} {args : Array Value} {below : List Frame} {meth : Method} {c : Code} {T : State} {locs : List Loc} {cells slots : Nat} {P : State → Outcome → Prop} {Q : Option Value → Heap → List Loc → Prop} {kc ns : Nat} {Z : State} {a0 : Array Value} {h : Heap} {f : JFrame}
theorem own_go {T' : State} {f' : JFrame} (st : ∀ t, Steps p.tables e below (T'.setTop f') t → Steps p.tables e below (T.setTop f) t) (k : own_End p e below P T' f') : own_End p e below P T f := by
  obtain ⟨s₂, o, h1, h2⟩ := k
  exact ⟨s₂, o, st _ h1, h2⟩
theorem own_via {T' : State} {f' : JFrame} (st : Steps p.tables e below (T.setTop f) (T'.setTop f')) (k : own_End p e below P T' f') : own_End p e below P T f := own_go (fun _ h => st.trans h) k
theorem own_exf (h : False) : own_End p e below P T f := h.elim
theorem own_body {y : MethodName} {bytes : ByteArray} {maxL : Nat} {ret : Option FieldType} {ws : List Jvm.Cond} {rm : Room} {as' : Array Value} (hpl : plainFor y = true)
    (body : ∀ (p : Program) (e : Env) (s : State) (m : MethodId) (below : List Frame) (meth : Method) (c : Code) (s₁ : State), p.tables.exec = Jvm.exec → Z.Warmed39 s.vm → c.code = bytes → c.maxLocals = maxL → s.vm.findClass y.cls = some m.cls → meth.name = y.name → meth.sig.returnType = ret → meth.locks = false →
      Stand p l e rm s m as' below meth c s₁ [] 0 0 → s₁.heap = h → own_End p e below (own_P below s Q rm.cells rm.slots) s₁ (entryFrame m as' maxL)) : own_Met l Z y bytes maxL ret ws rm as' h Q := by
  refine MetFree.of_bodySF hpl hisR ?_
  intro p e s m args below meth c s₁ Bd hml0 hP hK
  obtain ⟨rfl, hZ, hh⟩ := hP
  exact body p e s m below meth c s₁ Bd.exec hZ Bd.bytes hml0 (findClass_of_methodNamed Bd.named) (name_of_methodNamed Bd.named Bd.method).1 Bd.returns Bd.notSynchronized (Stand.of_body Bd) (by rw [← hh, Bd.state]; rfl)
theorem own_cast {g g' : JFrame} (q : g = g') (k : own_End p e below P T g') : own_End p e below P T g := q ▸ k
theorem own_ret (X : Stand p l e R s m args below meth c T locs cells slots) (hP : P = own_P below s Q kc ns) (hlk : meth.locks = false) (eT : T.heap = h) {v : Option Value} (hv : meth.sig.returnType = none → v = none) (hk : cells ≤ kc) (hn : slots ≤ ns) (hQ : Q v h locs)
    (st : ∀ fs, (∀ (f : JFrame) (acts : List Action), f.method = m → f.locked = none → f.entered = [] → (doReturn e (T.setTop f) acts v).1 = T.setFrames fs) → Steps p.tables e below (T.setTop f) (T.setFrames fs)) : own_End p e below P T f := by
  obtain ⟨fs, hr, hrun, hended, hW, hsame⟩ := X.leave hv hlk
  subst hP
  exact ⟨_, _, st fs hr, hrun, hended, _, _, rfl, (eT ▸ hQ : Q v T.heap locs), ⟨_, rfl⟩, hW, hsame.mono hk hn⟩
theorem own_retV (X : Stand p l e R s m args below meth c T locs cells slots) (hP : P = own_P below s Q kc ns) (hx : p.tables.exec = Jvm.exec) (hlk : meth.locks = false) (eT : T.heap = h) {pc : Nat} {Ls : Array Slot} (hret : meth.sig.returnType = none) (hd : decode c.code pc = .ok (.return_, 1)) (hk : cells ≤ kc) (hn : slots ≤ ns) (hQ : Q none h locs) :
    own_End p e below P T (mkF m pc Ls []) := own_ret X hP hlk eT (fun _ => rfl) hk hn hQ fun _ hr => X.returnOut hx hret hd hr
theorem own_retI (X : Stand p l e R s m args below meth c T locs cells slots) (hP : P = own_P below s Q kc ns) (hx : p.tables.exec = Jvm.exec) (hlk : meth.locks = false) (eT : T.heap = h) {pc : Nat} {Ls : Array Slot} {z : Int32} {rest : List Value} (hret : meth.sig.returnType = some .int) (hd : decode c.code pc = .ok (.ireturn, 1)) (hk : cells ≤ kc) (hn : slots ≤ ns) (hQ : Q (some (.int z)) h locs) :
    own_End p e below P T (mkF m pc Ls (.int z :: rest)) := own_ret X hP hlk eT (fun h => by rw [hret] at h; cases h) hk hn hQ fun fs hr => retOut X hx hret rfl (Or.inl ⟨rfl, Or.inl rfl, z, rfl⟩) hd hr
theorem own_retN (X : Stand p l e R s m args below meth c T locs cells slots) (hP : P = own_P below s Q kc ns) (hx : p.tables.exec = Jvm.exec) (hlk : meth.locks = false) (eT : T.heap = h) {pc : Nat} {Ls : Array Slot} {z : Int32} {rest : List Value} {t : FieldType} (hret : meth.sig.returnType = some t) (ht : t = .boolean ∨ t = .byte ∨ t = .char ∨ t = .short) (hd : decode c.code pc = .ok (.ireturn, 1)) (hk : cells ≤ kc) (hn : slots ≤ ns) {z' : Int32} (hz : nar t z = z') (hQ : Q (some (.int z')) h locs) :
    own_End p e below P T (mkF m pc Ls (.int z :: rest)) := by
  subst hz
  exact own_ret X hP hlk eT (fun h => by rw [hret] at h; cases h) hk hn hQ fun fs hr => retN X hx hret ht hd hr
theorem own_retJ (X : Stand p l e R s m args below meth c T locs cells slots) (hP : P = own_P below s Q kc ns) (hx : p.tables.exec = Jvm.exec) (hlk : meth.locks = false) (eT : T.heap = h) {pc : Nat} {Ls : Array Slot} {z : Int64} {rest : List Value} (hret : meth.sig.returnType = some .long) (hd : decode c.code pc = .ok (.lreturn, 1)) (hk : cells ≤ kc) (hn : slots ≤ ns) (hQ : Q (some (.long z)) h locs) :
    own_End p e below P T (mkF m pc Ls (.long z :: rest)) := own_ret X hP hlk eT (fun h => by rw [hret] at h; cases h) hk hn hQ fun fs hr => retOut X hx hret rfl (Or.inr (Or.inl ⟨rfl, rfl, z, rfl⟩)) hd hr
theorem own_retA (X : Stand p l e R s m args below meth c T locs cells slots) (hP : P = own_P below s Q kc ns) (hx : p.tables.exec = Jvm.exec) (hlk : meth.locks = false) (eT : T.heap = h) {pc : Nat} {Ls : Array Slot} {w : Value} {rest : List Value} {t : FieldType} (hret : meth.sig.returnType = some t) (ht : t.isReference = true) (hw : w.isRef = true) (hnr : narrow t w = w) (hd : decode c.code pc = .ok (.areturn, 1)) (hk : cells ≤ kc) (hn : slots ≤ ns) (hQ : Q (some w) h locs) :
    own_End p e below P T (mkF m pc Ls (w :: rest)) := own_ret X hP hlk eT (fun h => by rw [hret] at h; cases h) hk hn hQ fun fs hr => retOut X hx hret hnr (Or.inr (Or.inr (Or.inr (Or.inr ⟨rfl, ht, hw⟩)))) hd hr
theorem own_callS (X : Stand p l e R s m args below meth c T locs cells slots) (hx : p.tables.exec = Jvm.exec) (hZ : Z.Warmed39 s.vm) {own : String} (hown : s.vm.findClass own = some m.cls) (eT : T.heap = h) {index : Nat} {y : MethodName} {bytes : ByteArray} {maxL : Nat} {ret : Option FieldType} {rm : Room} {as' : Array Value} {Q' : Option Value → Heap → List Loc → Prop}
    (w1 : (Cond.methodLink own index y).before a0 Z = true) (w2 : (Cond.static y).before a0 Z = true) (w3 : (Cond.initialized y.cls).before a0 Z = true) (w4 : (Cond.code y bytes maxL ret).before a0 Z = true) (hy : y.cls ≠ "java/lang/invoke/MethodHandle" ∧ y.cls ≠ "java/lang/invoke/VarHandle")
    (hM : own_Met l Z y bytes maxL ret [] rm as' h Q') {g : JFrame} (hg : g.method = m) (hsize : g.locals.size = c.maxLocals) {argsL rest : List Value} (hlen : ∀ sig, parseMethodDescriptor y.desc = some sig → argsL.length = sig.parameters.length) (hstack : g.stack = argsL.reverse ++ rest) (has : argsL.toArray = as') {W : Nat} (hW : 2 * g.monitorRoom + (rest.map fun v => v.category).sum ≤ W) (hdg : decode c.code g.pc = .ok (.invokestatic index, 3))
    (hf : rm.frames + 1 ≤ R.frames) (hl : W + (maxL + 11) + rm.locals ≤ R.locals) (hc : cells + rm.cells ≤ R.cells) (hs : slots + rm.slots ≤ R.slots)
    (k : ∀ v T' L, Stand p l e R s m args below meth c T' (locs ++ L) (cells + rm.cells) (slots + rm.slots) → Q' v T'.heap L → own_End p e below P T' { g with pc := g.pc + 3, stack := v.toList ++ rest }) : own_End p e below P T g := by
  obtain ⟨v, vm1, ⟨T', L1, k1, n1⟩, -, X', ⟨L, hQ, l1, y1, z1⟩, st⟩ := Jvm.LawKit.callS X hx (y := y) hown (mvT hZ w1) (mvT hZ w2) (mvT hZ w3) (mvT hZ w4) hy (backOf (W := W) hM hZ w4 w3 hf hl) hg hsize hlen hstack hW hdg (fun _ _ => ⟨has, eT, hc, hs⟩)
  dsimp only [Pt.U, Pt.locs, Pt.cells, Pt.slots] at X' l1 y1 z1 st hQ
  subst l1 y1 z1
  exact own_go st (k v T' L X' hQ)
theorem own_callC (X : Stand p l e R s m args below meth c T locs cells slots) (hx : p.tables.exec = Jvm.exec) (hZ : Z.Warmed39 s.vm) {own : String} (hown : s.vm.findClass own = some m.cls) (eT : T.heap = h) {index : Nat} {y : MethodName} {bytes : ByteArray} {maxL : Nat} {rm : Room} {as' : Array Value} {Q' : Option Value → Heap → List Loc → Prop}
    (hyi : y.name = "<init>") (w1 : (Cond.methodLink own index y).before a0 Z = true) (w2 : (Cond.instanceMethod y).before a0 Z = true) (w3 : (Cond.initialized y.cls).before a0 Z = true) (w4 : (Cond.code y bytes maxL none).before a0 Z = true) (hy : y.cls ≠ "java/lang/invoke/MethodHandle" ∧ y.cls ≠ "java/lang/invoke/VarHandle")
    (hM : own_Met l Z y bytes maxL none [] rm as' h Q') {g : JFrame} (hg : g.method = m) (hsize : g.locals.size = c.maxLocals) {a : Addr} {argsL rest : List Value} (hlen : ∀ sig, parseMethodDescriptor y.desc = some sig → argsL.length = sig.parameters.length) (hstack : g.stack = argsL.reverse ++ .ref a :: rest) (has : (.ref a :: argsL).toArray = as') {W : Nat} (hW : 2 * g.monitorRoom + (rest.map fun v => v.category).sum ≤ W) (hdg : decode c.code g.pc = .ok (.invokespecial index, 3))
    (hf : rm.frames + 1 ≤ R.frames) (hl : W + (maxL + 11) + rm.locals ≤ R.locals) (hc : cells + rm.cells ≤ R.cells) (hs : slots + rm.slots ≤ R.slots)
    (k : ∀ v T' L, Stand p l e R s m args below meth c T' (locs ++ L) (cells + rm.cells) (slots + rm.slots) → Q' v T'.heap L → own_End p e below P T' { g with pc := g.pc + 3, stack := v.toList ++ rest }) : own_End p e below P T g := by
  obtain ⟨v, vm1, ⟨T', L1, k1, n1⟩, -, X', ⟨L, hQ, l1, y1, z1⟩, st⟩ := X.specialBack hx (y := y) hyi hown (mvT hZ w1) (mvT hZ w2) (mvT hZ w4) hy (backOf (W := W) hM hZ w4 w3 hf hl) hg hsize (Steps.refl _) (a := a) hlen hstack hW hdg (fun _ _ => ⟨has, eT, hc, hs⟩)
  dsimp only [Pt.U, Pt.locs, Pt.cells, Pt.slots] at X' l1 y1 z1 st hQ
  subst l1 y1 z1
  exact own_via st (k v T' L X' hQ)
theorem own_callV (X : Stand p l e R s m args below meth c T locs cells slots) (hx : p.tables.exec = Jvm.exec) (hZ : Z.Warmed39 s.vm) {own : String} (hown : s.vm.findClass own = some m.cls) (eT : T.heap = h) {index : Nat} {C : String} {y z : MethodName} {bytes : ByteArray} {maxL : Nat} {ret : Option FieldType} {rm : Room} {as' : Array Value} {Q' : Option Value → Heap → List Loc → Prop}
    (w1 : (Cond.methodLink own index y).before a0 Z = true) (wd : (Cond.declares y).before a0 Z = true) (hnf : NotFace s y) (wsel : (Cond.selects C y z).before a0 Z = true) (w2 : (Cond.instanceMethod z).before a0 Z = true) (w3 : (Cond.initialized z.cls).before a0 Z = true) (w4 : (Cond.code z bytes maxL ret).before a0 Z = true) (hy : y.cls ≠ "java/lang/invoke/MethodHandle" ∧ y.cls ≠ "java/lang/invoke/VarHandle")
    (hM : own_Met l Z z bytes maxL ret [] rm as' h Q') {a : Addr} (E : Exa Z h a C) {g : JFrame} (hg : g.method = m) (hsize : g.locals.size = c.maxLocals) {argsL rest : List Value} (hlen : ∀ sig, parseMethodDescriptor y.desc = some sig → argsL.length = sig.parameters.length) (hstack : g.stack = argsL.reverse ++ .ref a :: rest) (has : (.ref a :: argsL).toArray = as') {W : Nat} (hW : 2 * g.monitorRoom + (rest.map fun v => v.category).sum ≤ W) (hdg : decode c.code g.pc = .ok (.invokevirtual index, 3))
    (hf : rm.frames + 1 ≤ R.frames) (hl : W + (maxL + 11) + rm.locals ≤ R.locals) (hc : cells + rm.cells ≤ R.cells) (hs : slots + rm.slots ≤ R.slots)
    (k : ∀ v T' L, Stand p l e R s m args below meth c T' (locs ++ L) (cells + rm.cells) (slots + rm.slots) → Q' v T'.heap L → own_End p e below P T' { g with pc := g.pc + 3, stack := v.toList ++ rest }) : own_End p e below P T g := by
  obtain ⟨cB, kB, q1, q2, q3⟩ := isOf (T := T) hZ eT E
  obtain ⟨v, vm1, ⟨T', L1, k1, n1⟩, -, X', ⟨L, hQ, l1, y1, z1⟩, st⟩ := X.virtualBack hx (y := y) (z := z) hown (mvT hZ w1) (mvT hZ wd) hnf (mvT hZ wsel) (mvT hZ w2) hy (backOf (W := W) hM hZ w4 w3 hf hl) q1 q3 hg hsize (Steps.refl _) hlen hstack hW hdg (fun _ _ => ⟨has, eT, hc, hs⟩)
  dsimp only [Pt.U, Pt.locs, Pt.cells, Pt.slots] at X' l1 y1 z1 st hQ
  subst l1 y1 z1
  exact own_via st (k v T' L X' hQ)
theorem own_selP {C : String} {x' y y' : MethodName} (wz : (Cond.selects C x' y').before args s = true) (hc : y'.cls = y.cls) (hpriv : s.PrivateAt y) (hinst : (Cond.instanceMethod y).before args s = true) (hy : y.cls ≠ "java/lang/invoke/MethodHandle" ∧ y.cls ≠ "java/lang/invoke/VarHandle") : (Cond.selects y.cls y y).before args s = true := by
  obtain ⟨_, _, m2, -, -, q3, -, kP, hkP, hkPi⟩ := Cond.selects_spec wz
  exact selects_self_of_private (by rw [← hc]; exact findClass_of_methodNamed q3) hkP hkPi hpriv hinst hy
theorem own_callP (X : Stand p l e R s m args below meth c T locs cells slots) (hx : p.tables.exec = Jvm.exec) (hZ : Z.Warmed39 s.vm) {own : String} (hown : s.vm.findClass own = some m.cls) (eT : T.heap = h) {index : Nat} {y : MethodName} {bytes : ByteArray} {maxL : Nat} {ret : Option FieldType} {rm : Room} {as' : Array Value} {Q' : Option Value → Heap → List Loc → Prop}
    (w1 : (Cond.methodLink own index y).before a0 Z = true) (w2 : (Cond.instanceMethod y).before a0 Z = true) (wsel : (Cond.selects y.cls y y).before args s = true) (wp : (Cond.privateMethod y).before a0 Z = true) (w3 : (Cond.initialized y.cls).before a0 Z = true) (w4 : (Cond.code y bytes maxL ret).before a0 Z = true) (hy : y.cls ≠ "java/lang/invoke/MethodHandle" ∧ y.cls ≠ "java/lang/invoke/VarHandle")
    (hM : own_Met l Z y bytes maxL ret [] rm as' h Q') {C : String} {a : Addr} (E : Exa Z h a C) {g : JFrame} (hg : g.method = m) (hsize : g.locals.size = c.maxLocals) {argsL rest : List Value} (hlen : ∀ sig, parseMethodDescriptor y.desc = some sig → argsL.length = sig.parameters.length) (hstack : g.stack = argsL.reverse ++ .ref a :: rest) (has : (.ref a :: argsL).toArray = as') {W : Nat} (hW : 2 * g.monitorRoom + (rest.map fun v => v.category).sum ≤ W) (hdg : decode c.code g.pc = .ok (.invokevirtual index, 3))
    (hf : rm.frames + 1 ≤ R.frames) (hl : W + (maxL + 11) + rm.locals ≤ R.locals) (hc : cells + rm.cells ≤ R.cells) (hs : slots + rm.slots ≤ R.slots)
    (k : ∀ v T' L, Stand p l e R s m args below meth c T' (locs ++ L) (cells + rm.cells) (slots + rm.slots) → Q' v T'.heap L → own_End p e below P T' { g with pc := g.pc + 3, stack := v.toList ++ rest }) : own_End p e below P T g := by
  obtain ⟨cq, q1, q2⟩ := E.cell
  obtain ⟨v, vm1, ⟨T', L1, k1, n1⟩, -, X', ⟨L, hQ, l1, y1, z1⟩, st⟩ := X.privateBack hx (y := y) hown (mvT hZ w1) (mvT hZ w2) wsel (Cond.privateMethod_at (mvP hZ wp (args := #[]))) (mvT hZ w4) hy (backOf (W := W) hM hZ w4 w3 hf hl) hg hsize (Steps.refl _) (a := a) (by rw [eT]; exact q1) q2 hlen hstack hW hdg (fun _ _ => ⟨has, eT, hc, hs⟩)
  dsimp only [Pt.U, Pt.locs, Pt.cells, Pt.slots] at X' l1 y1 z1 st hQ
  subst l1 y1 z1
  exact own_via st (k v T' L X' hQ)
end OwnSteps
/-! own: a truth as an int; comparisons of longs -/
def own_z (P : Prop) [Decidable P] : Int32 := if P then 1 else 0
section OwnTruth
variable {P : Prop} [Decidable P] {x y : Int64}
theorem own_z_t (h : P) : own_z P = 1 := if_pos h
theorem own_z_f (h : ¬ P) : own_z P = 0 := if_neg h
theorem own_z_nar : nar .boolean (own_z P) = own_z P := by unfold own_z; split <;> decide
theorem own_z_congr {P' : Prop} [Decidable P'] (h : P ↔ P') : own_z P = own_z P' := by unfold own_z; by_cases q : P <;> simp [q, h.symm, h.mp] <;> simp_all
theorem own_z_inj {P' : Prop} [Decidable P'] (h : own_z P = own_z P') : P ↔ P' := by
  unfold own_z at h; by_cases q : P <;> by_cases q' : P' <;> simp_all
theorem own_zY_eq (h : ¬ P) : ifCond.holds .eq (own_z P) = true := by rw [own_z_f h]; rfl
theorem own_zN_eq (h : P) : ifCond.holds .eq (own_z P) = false := by rw [own_z_t h]; rfl
theorem own_zY_ne (h : P) : ifCond.holds .ne (own_z P) = true := by rw [own_z_t h]; rfl
theorem own_zN_ne (h : ¬ P) : ifCond.holds .ne (own_z P) = false := by rw [own_z_f h]; rfl
theorem own_lY_lt (h : x < y) : ifCond.holds .lt (lcmpW x y) = true := (if0 _ _).trans (tlt ((lw_lt x y).mpr h)).1
theorem own_lN_lt (h : ¬ x < y) : ifCond.holds .lt (lcmpW x y) = false := (if0 _ _).trans (flt (mt (lw_lt x y).mp h)).1
theorem own_lY_ge (h : ¬ x < y) : ifCond.holds .ge (lcmpW x y) = true := (if0 _ _).trans (flt (mt (lw_lt x y).mp h)).2.1
theorem own_lN_ge (h : x < y) : ifCond.holds .ge (lcmpW x y) = false := (if0 _ _).trans (tlt ((lw_lt x y).mpr h)).2.1
theorem own_lY_gt (h : y < x) : ifCond.holds .gt (lcmpW x y) = true := (if0 _ _).trans (tlt ((lw_gt x y).mpr h)).2.2.1
theorem own_lN_gt (h : ¬ y < x) : ifCond.holds .gt (lcmpW x y) = false := (if0 _ _).trans (flt (mt (lw_gt x y).mp h)).2.2.1
theorem own_lY_le (h : ¬ y < x) : ifCond.holds .le (lcmpW x y) = true := (if0 _ _).trans (flt (mt (lw_gt x y).mp h)).2.2.2
theorem own_lN_le (h : y < x) : ifCond.holds .le (lcmpW x y) = false := (if0 _ _).trans (tlt ((lw_gt x y).mpr h)).2.2.2
theorem own_lY_eq (h : x = y) : ifCond.holds .eq (lcmpW x y) = true := (if0 _ _).trans (teq ((lw_eq x y).mpr h)).1
theorem own_lN_eq (h : ¬ x = y) : ifCond.holds .eq (lcmpW x y) = false := (if0 _ _).trans (feq (mt (lw_eq x y).mp h)).1
theorem own_lY_ne (h : ¬ x = y) : ifCond.holds .ne (lcmpW x y) = true := (if0 _ _).trans (feq (mt (lw_eq x y).mp h)).2
theorem own_lN_ne (h : x = y) : ifCond.holds .ne (lcmpW x y) = false := (if0 _ _).trans (teq ((lw_eq x y).mpr h)).2
end OwnTruth
/-! own: a callee that writes nothing -/
def own_Pq (val : Option Value) (h : Heap) : Option Value → Heap → List Loc → Prop := fun v h' L => v = val ∧ L = [] ∧ h' = h
section OwnPure
variable {p : Program} {l : Launch} {e : Env} {R : Room} {s : State} {m : MethodId} {args : Array Value} {below : List Frame} {meth : Method} {c : Code} {T : State} {locs : List Loc} {cells slots : Nat} {P : State → Outcome → Prop} {Q : Option Value → Heap → List Loc → Prop} {kc ns : Nat} {Z : State} {a0 : Array Value} {h : Heap} {f : JFrame}
theorem own_callSp (X : Stand p l e R s m args below meth c T locs cells slots) (hx : p.tables.exec = Jvm.exec) (hZ : Z.Warmed39 s.vm) {own : String} (hown : s.vm.findClass own = some m.cls) (eT : T.heap = h) {index : Nat} {y : MethodName} {bytes : ByteArray} {maxL : Nat} {ret : Option FieldType} {fr lo : Nat} {as' : Array Value} {val : Option Value}
    (w1 : (Cond.methodLink own index y).before a0 Z = true) (w2 : (Cond.static y).before a0 Z = true) (w3 : (Cond.initialized y.cls).before a0 Z = true) (w4 : (Cond.code y bytes maxL ret).before a0 Z = true) (hy : y.cls ≠ "java/lang/invoke/MethodHandle" ∧ y.cls ≠ "java/lang/invoke/VarHandle")
    (hM : own_Met l Z y bytes maxL ret [] { frames := fr, cells := 0, slots := 0, locals := lo } as' h (own_Pq val h)) {g : JFrame} (hg : g.method = m) (hsize : g.locals.size = c.maxLocals) {argsL rest : List Value} (hlen : ∀ sig, parseMethodDescriptor y.desc = some sig → argsL.length = sig.parameters.length) (hstack : g.stack = argsL.reverse ++ rest) (has : argsL.toArray = as') {W : Nat} (hW : 2 * g.monitorRoom + (rest.map fun v => v.category).sum ≤ W) (hdg : decode c.code g.pc = .ok (.invokestatic index, 3))
    (hf : fr + 1 ≤ R.frames) (hl : W + (maxL + 11) + lo ≤ R.locals) (hc : cells ≤ R.cells) (hs : slots ≤ R.slots)
    (k : ∀ T', Stand p l e R s m args below meth c T' locs cells slots → T'.heap = h → own_End p e below P T' { g with pc := g.pc + 3, stack := val.toList ++ rest }) : own_End p e below P T g :=
  own_callS X hx hZ hown eT w1 w2 w3 w4 hy hM hg hsize hlen hstack has hW hdg hf hl hc hs fun v T' L X' ⟨q1, q2, q3⟩ => by
    subst q1 q2
    rw [List.append_nil] at X'
    exact k T' X' q3
theorem own_callCp (X : Stand p l e R s m args below meth c T locs cells slots) (hx : p.tables.exec = Jvm.exec) (hZ : Z.Warmed39 s.vm) {own : String} (hown : s.vm.findClass own = some m.cls) (eT : T.heap = h) {index : Nat} {y : MethodName} {bytes : ByteArray} {maxL : Nat} {fr lo : Nat} {as' : Array Value} {val : Option Value}
    (hyi : y.name = "<init>") (w1 : (Cond.methodLink own index y).before a0 Z = true) (w2 : (Cond.instanceMethod y).before a0 Z = true) (w3 : (Cond.initialized y.cls).before a0 Z = true) (w4 : (Cond.code y bytes maxL none).before a0 Z = true) (hy : y.cls ≠ "java/lang/invoke/MethodHandle" ∧ y.cls ≠ "java/lang/invoke/VarHandle")
    (hM : own_Met l Z y bytes maxL none [] { frames := fr, cells := 0, slots := 0, locals := lo } as' h (own_Pq val h)) {g : JFrame} (hg : g.method = m) (hsize : g.locals.size = c.maxLocals) {a : Addr} {argsL rest : List Value} (hlen : ∀ sig, parseMethodDescriptor y.desc = some sig → argsL.length = sig.parameters.length) (hstack : g.stack = argsL.reverse ++ .ref a :: rest) (has : (.ref a :: argsL).toArray = as') {W : Nat} (hW : 2 * g.monitorRoom + (rest.map fun v => v.category).sum ≤ W) (hdg : decode c.code g.pc = .ok (.invokespecial index, 3))
    (hf : fr + 1 ≤ R.frames) (hl : W + (maxL + 11) + lo ≤ R.locals) (hc : cells ≤ R.cells) (hs : slots ≤ R.slots)
    (k : ∀ T', Stand p l e R s m args below meth c T' locs cells slots → T'.heap = h → own_End p e below P T' { g with pc := g.pc + 3, stack := val.toList ++ rest }) : own_End p e below P T g :=
  own_callC X hx hZ hown eT hyi w1 w2 w3 w4 hy hM hg hsize hlen hstack has hW hdg hf hl hc hs fun v T' L X' ⟨q1, q2, q3⟩ => by
    subst q1 q2
    rw [List.append_nil] at X'
    exact k T' X' q3
theorem own_callVp (X : Stand p l e R s m args below meth c T locs cells slots) (hx : p.tables.exec = Jvm.exec) (hZ : Z.Warmed39 s.vm) {own : String} (hown : s.vm.findClass own = some m.cls) (eT : T.heap = h) {index : Nat} {C : String} {y z : MethodName} {bytes : ByteArray} {maxL : Nat} {ret : Option FieldType} {fr lo : Nat} {as' : Array Value} {val : Option Value}
    (w1 : (Cond.methodLink own index y).before a0 Z = true) (wd : (Cond.declares y).before a0 Z = true) (hnf : NotFace s y) (wsel : (Cond.selects C y z).before a0 Z = true) (w2 : (Cond.instanceMethod z).before a0 Z = true) (w3 : (Cond.initialized z.cls).before a0 Z = true) (w4 : (Cond.code z bytes maxL ret).before a0 Z = true) (hy : y.cls ≠ "java/lang/invoke/MethodHandle" ∧ y.cls ≠ "java/lang/invoke/VarHandle")
    (hM : own_Met l Z z bytes maxL ret [] { frames := fr, cells := 0, slots := 0, locals := lo } as' h (own_Pq val h)) {a : Addr} (E : Exa Z h a C) {g : JFrame} (hg : g.method = m) (hsize : g.locals.size = c.maxLocals) {argsL rest : List Value} (hlen : ∀ sig, parseMethodDescriptor y.desc = some sig → argsL.length = sig.parameters.length) (hstack : g.stack = argsL.reverse ++ .ref a :: rest) (has : (.ref a :: argsL).toArray = as') {W : Nat} (hW : 2 * g.monitorRoom + (rest.map fun v => v.category).sum ≤ W) (hdg : decode c.code g.pc = .ok (.invokevirtual index, 3))
    (hf : fr + 1 ≤ R.frames) (hl : W + (maxL + 11) + lo ≤ R.locals) (hc : cells ≤ R.cells) (hs : slots ≤ R.slots)
    (k : ∀ T', Stand p l e R s m args below meth c T' locs cells slots → T'.heap = h → own_End p e below P T' { g with pc := g.pc + 3, stack := val.toList ++ rest }) : own_End p e below P T g :=
  own_callV X hx hZ hown eT w1 wd hnf wsel w2 w3 w4 hy hM E hg hsize hlen hstack has hW hdg hf hl hc hs fun v T' L X' ⟨q1, q2, q3⟩ => by
    subst q1 q2
    rw [List.append_nil] at X'
    exact k T' X' q3
theorem own_callPp (X : Stand p l e R s m args below meth c T locs cells slots) (hx : p.tables.exec = Jvm.exec) (hZ : Z.Warmed39 s.vm) {own : String} (hown : s.vm.findClass own = some m.cls) (eT : T.heap = h) {index : Nat} {y : MethodName} {bytes : ByteArray} {maxL : Nat} {ret : Option FieldType} {fr lo : Nat} {as' : Array Value} {val : Option Value}
    (w1 : (Cond.methodLink own index y).before a0 Z = true) (w2 : (Cond.instanceMethod y).before a0 Z = true) (wsel : (Cond.selects y.cls y y).before args s = true) (wp : (Cond.privateMethod y).before a0 Z = true) (w3 : (Cond.initialized y.cls).before a0 Z = true) (w4 : (Cond.code y bytes maxL ret).before a0 Z = true) (hy : y.cls ≠ "java/lang/invoke/MethodHandle" ∧ y.cls ≠ "java/lang/invoke/VarHandle")
    (hM : own_Met l Z y bytes maxL ret [] { frames := fr, cells := 0, slots := 0, locals := lo } as' h (own_Pq val h)) {C : String} {a : Addr} (E : Exa Z h a C) {g : JFrame} (hg : g.method = m) (hsize : g.locals.size = c.maxLocals) {argsL rest : List Value} (hlen : ∀ sig, parseMethodDescriptor y.desc = some sig → argsL.length = sig.parameters.length) (hstack : g.stack = argsL.reverse ++ .ref a :: rest) (has : (.ref a :: argsL).toArray = as') {W : Nat} (hW : 2 * g.monitorRoom + (rest.map fun v => v.category).sum ≤ W) (hdg : decode c.code g.pc = .ok (.invokevirtual index, 3))
    (hf : fr + 1 ≤ R.frames) (hl : W + (maxL + 11) + lo ≤ R.locals) (hc : cells ≤ R.cells) (hs : slots ≤ R.slots)
    (k : ∀ T', Stand p l e R s m args below meth c T' locs cells slots → T'.heap = h → own_End p e below P T' { g with pc := g.pc + 3, stack := val.toList ++ rest }) : own_End p e below P T g :=
  own_callP X hx hZ hown eT w1 w2 wsel wp w3 w4 hy hM E hg hsize hlen hstack has hW hdg hf hl hc hs fun v T' L X' ⟨q1, q2, q3⟩ => by
    subst q1 q2
    rw [List.append_nil] at X'
    exact k T' X' q3
end OwnPure
/-! own: a cell that is known -/
def own_K (h : Heap) (a : Addr) : Prop := ∃ cell : Cell, h[a]? = some cell ∧ cell.vm ≠ .unknown
theorem own_K_ext {h h' : Heap} {a : Addr} (K : own_K h a) (E : Ext h h') : own_K h' a := by obtain ⟨c, h1, h2⟩ := K; exact ⟨c, E.2 _ _ h1, h2⟩
theorem own_K_wr {h h' : Heap} {a b : Addr} {sl : Nat} {v : Value} (K : own_K h b) (W : Wr h h' a sl v) : own_K h' b := by
  obtain ⟨c, h1, h2⟩ := K
  obtain ⟨c', e1, -, e3, -⟩ := wr_at W h1
  exact ⟨c', e1, by rw [e3]; exact h2⟩
theorem own_K_keep {h h' : Heap} {a : Addr} {ws : List Addr} (K : own_K h a) (E : Keep h h' ws) : own_K h' a := by
  obtain ⟨c, h1, h2⟩ := K
  obtain ⟨c', e1, -, e3, -⟩ := E.2.2 _ _ h1
  exact ⟨c', e1, by rw [e3]; exact h2⟩
theorem own_K_new {h : Heap} {a : Addr} (U : ∃ cell : Cell, h[a]? = some cell ∧ cell.vm = .none ∧ cell.monitor = {}) : own_K h a := by
  obtain ⟨c, h1, h2, -⟩ := U
  exact ⟨c, h1, by rw [h2]; simp⟩
/-! own: an array of n places, place i holds f i -/
def own_A (Z : State) (h : Heap) (a : Addr) (ty : FieldType) (n : Nat) (f : Nat → Value) : Prop := ∃ c : Cell, Arr Z h a c ty ∧ c.slots.size = n ∧ n < 2147483648 ∧ ∀ i, i < n → c.slots[i]? = some (f i)
abbrev own_AJ (Z : State) (h : Heap) (a : Addr) (n : Nat) (f : Nat → Int64) : Prop := own_A Z h a .long n (fun i => .long (f i))
abbrev own_AI (Z : State) (h : Heap) (a : Addr) (n : Nat) (f : Nat → Int32) : Prop := own_A Z h a .int n (fun i => .int (f i))
abbrev own_AB (Z : State) (h : Heap) (a : Addr) (n : Nat) (f : Nat → Int32) : Prop := own_A Z h a .byte n (fun i => .int (f i))
def own_set {α : Type} (f : Nat → α) (i : Nat) (x : α) : Nat → α := fun k => if k = i then x else f k
theorem own_set_eq {α : Type} {f : Nat → α} {i k : Nat} {x : α} (h : k = i) : own_set f i x k = x := if_pos h
theorem own_set_ne {α : Type} {f : Nat → α} {i k : Nat} {x : α} (h : k ≠ i) : own_set f i x k = f k := if_neg h
section OwnArr
variable {Z : State} {h h' : Heap} {a b : Addr} {ty : FieldType} {n : Nat} {f f' : Nat → Value}
theorem own_A.lt (A : own_A Z h a ty n f) : a < h.size := by obtain ⟨c, A, -⟩ := A; exact A.lt
theorem own_A.ext (A : own_A Z h a ty n f) (E : Ext h h') : own_A Z h' a ty n f := by obtain ⟨c, A, r⟩ := A; exact ⟨c, A.ext E, r⟩
theorem own_A.other {sl : Nat} {v : Value} (A : own_A Z h b ty n f) (W : Wr h h' a sl v) (q : b ≠ a) : own_A Z h' b ty n f := by obtain ⟨c, A, r⟩ := A; exact ⟨c, A.other W q, r⟩
theorem own_A.keep {ws : List Addr} (A : own_A Z h a ty n f) (K : Keep h h' ws) (q : a ∉ ws) : own_A Z h' a ty n f := by obtain ⟨c, A, r⟩ := A; exact ⟨c, ⟨K.2.1 a c A.1 q, A.2⟩, r⟩
theorem own_A.congr (A : own_A Z h a ty n f) (q : ∀ i, i < n → f i = f' i) : own_A Z h a ty n f' := by obtain ⟨c, A, r1, r2, r3⟩ := A; exact ⟨c, A, r1, r2, fun i hi => by rw [← q i hi]; exact r3 i hi⟩
theorem own_nat {j : Int32} {i : Nat} (hj : j.toInt = (i : Int)) : j.toNatClampNeg = i := by
  show j.toInt.toNat = i
  rw [hj]; rfl
theorem own_in {c : Cell} {j : Int32} {i : Nat} (S : c.slots.size = n) (hj : j.toInt = (i : Int)) (hi : i < n) : ¬ (j < 0 ∨ c.slots.size ≤ j.toNatClampNeg) := by
  rw [own_nat hj, S, Int32.lt_iff_toInt_lt, hj, show (0 : Int32).toInt = 0 from rfl]; omega
theorem own_A_new {cA : ClassId} {z : Int32} (A : Arr Z h a (newA cA ty z) ty) (hz : z.toInt = (n : Int)) : own_A Z h a ty n (fun _ => defaultValue ty) := by
  have hn : z.toNatClampNeg = n := own_nat hz
  have hl := z.toInt_lt
  refine ⟨_, A, by rw [sz_new]; exact hn, by omega, fun i hi => ?_⟩
  simp [newA, hn, hi]
theorem own_A_set {j : Int32} {i : Nat} {v : Value} (A : own_A Z h a ty n f) (W : Wr h h' a j.toNatClampNeg v) (hj : j.toInt = (i : Int)) (hi : i < n) : own_A Z h' a ty n (own_set f i v) := by
  obtain ⟨c, A, r1, r2, r3⟩ := A
  rw [own_nat hj] at W
  refine ⟨_, A.same W, by rw [sz_set]; exact r1, r2, fun k hk => ?_⟩
  show (c.slots.setIfInBounds i v)[k]? = some (if k = i then v else f k)
  by_cases q : k = i
  · subst q; rw [if_pos rfl]; simp [r1, hi]
  · rw [if_neg q, Array.getElem?_setIfInBounds_ne (Ne.symm q)]; exact r3 k hk
end OwnArr
section OwnArrSteps
variable {p : Program} {l : Launch} {e : Env} {R : Room} {s : State} {m : MethodId} {args : Array Value} {below : List Frame} {meth : Method} {c : Code} {T : State} {locs : List Loc} {cells slots : Nat} {Z : State} {a0 : Array Value} {h : Heap} {a : Addr} {n i : Nat} {j : Int32} {g : JFrame} {rest : List Value}
theorem own_laload (X : Stand p l e R s m args below meth c T locs cells slots) (hx : p.tables.exec = Jvm.exec) (hZ : Z.Warmed39 s.vm) (eT : T.heap = h) {f : Nat → Int64} (A : own_AJ Z h a n f) (hj : j.toInt = (i : Int)) (hi : i < n) (hg : g.method = m) (hs : g.stack = .int j :: .ref a :: rest) (hd : decode c.code g.pc = .ok (.laload, 1)) :
    ∀ target, Steps p.tables e below (T.setTop { g with pc := g.pc + 1, stack := .long (f i) :: rest }) target → Steps p.tables e below (T.setTop g) target := by
  obtain ⟨cl, A, r1, r2, r3⟩ := A
  exact X.laload hx (j := j) (v := .long (f i)) (by rw [eT]; exact A.1) (State.isArrayOf_alike hZ.alike A.2.1) A.2.2 (own_in r1 hj hi) (by rw [own_nat hj]; exact r3 i hi) hg hs hd
theorem own_iaload (X : Stand p l e R s m args below meth c T locs cells slots) (hx : p.tables.exec = Jvm.exec) (hZ : Z.Warmed39 s.vm) (eT : T.heap = h) {f : Nat → Int32} (A : own_AI Z h a n f) (hj : j.toInt = (i : Int)) (hi : i < n) (hg : g.method = m) (hs : g.stack = .int j :: .ref a :: rest) (hd : decode c.code g.pc = .ok (.iaload, 1)) :
    ∀ target, Steps p.tables e below (T.setTop { g with pc := g.pc + 1, stack := .int (f i) :: rest }) target → Steps p.tables e below (T.setTop g) target := by
  obtain ⟨cl, A, r1, r2, r3⟩ := A
  exact X.iaload hx (j := j) (v := .int (f i)) (by rw [eT]; exact A.1) (State.isArrayOf_alike hZ.alike A.2.1) A.2.2 (own_in r1 hj hi) (by rw [own_nat hj]; exact r3 i hi) hg hs hd
theorem own_baload (X : Stand p l e R s m args below meth c T locs cells slots) (hx : p.tables.exec = Jvm.exec) (hZ : Z.Warmed39 s.vm) (eT : T.heap = h) {f : Nat → Int32} (A : own_AB Z h a n f) (hj : j.toInt = (i : Int)) (hi : i < n) (hg : g.method = m) (hs : g.stack = .int j :: .ref a :: rest) (hd : decode c.code g.pc = .ok (.baload, 1)) :
    ∀ target, Steps p.tables e below (T.setTop { g with pc := g.pc + 1, stack := .int (f i) :: rest }) target → Steps p.tables e below (T.setTop g) target := by
  obtain ⟨cl, A, r1, r2, r3⟩ := A
  exact X.baloadBytes hx (j := j) (v := .int (f i)) (by rw [eT]; exact A.1) (State.isArrayOf_alike hZ.alike A.2.1) A.2.2 (own_in r1 hj hi) (by rw [own_nat hj]; exact r3 i hi) hg hs hd
theorem own_length (X : Stand p l e R s m args below meth c T locs cells slots) (hx : p.tables.exec = Jvm.exec) (hZ : Z.Warmed39 s.vm) (eT : T.heap = h) {ty : FieldType} {f : Nat → Value} (A : own_A Z h a ty n f) {z : Int32} (hz : z.toInt = (n : Int)) (hg : g.method = m) (hs : g.stack = .ref a :: rest) (hd : decode c.code g.pc = .ok (.arraylength, 1)) :
    ∀ target, Steps p.tables e below (T.setTop { g with pc := g.pc + 1, stack := .int z :: rest }) target → Steps p.tables e below (T.setTop g) target := by
  obtain ⟨cl, A, r1, r2, -⟩ := A
  intro target k
  refine X.arraylength hx (by rw [eT]; exact A.1) (State.isArrayOf_alike hZ.alike A.2.1) hg hs hd _ ?_
  have q : cl.slots.size.toInt32 = z := Int32.toInt_inj.mp (by rw [r1, hz]; exact Int32.toInt_ofNat_of_lt (by omega))
  rw [q]; exact k
theorem own_lastore (X : Stand p l e R s m args below meth c T locs cells slots) (hx : p.tables.exec = Jvm.exec) (hZ : Z.Warmed39 s.vm) (eT : T.heap = h) {f : Nat → Int64} {x : Int64} (A : own_AJ Z h a n f) (hj : j.toInt = (i : Int)) (hi : i < n) (hg : g.method = m) (hs : g.stack = .long x :: .int j :: .ref a :: rest) (hd : decode c.code g.pc = .ok (.lastore, 1)) :
    ∃ T' h', Stand p l e R s m args below meth c T' (locs ++ [⟨a, j.toNatClampNeg⟩]) cells slots ∧ T'.heap = h' ∧ Wr h h' a j.toNatClampNeg (.long x) ∧ own_AJ Z h' a n (own_set f i x) ∧ ∀ target, Steps p.tables e below (T'.setTop { g with pc := g.pc + 1, stack := rest }) target → Steps p.tables e below (T.setTop g) target := by
  obtain ⟨cl, B, r1, r2, r3⟩ := A
  obtain ⟨T', h', X', e', W, st⟩ := stJ X hx hZ eT B (own_in r1 hj hi) hg hs hd
  exact ⟨T', h', X', e', W, (own_A_set ⟨cl, B, r1, r2, r3⟩ W hj hi).congr fun k _ => by unfold own_set; split <;> rfl, st⟩
theorem own_iastore (X : Stand p l e R s m args below meth c T locs cells slots) (hx : p.tables.exec = Jvm.exec) (hZ : Z.Warmed39 s.vm) (eT : T.heap = h) {f : Nat → Int32} {x : Int32} (A : own_AI Z h a n f) (hj : j.toInt = (i : Int)) (hi : i < n) (hg : g.method = m) (hs : g.stack = .int x :: .int j :: .ref a :: rest) (hd : decode c.code g.pc = .ok (.iastore, 1)) :
    ∃ T' h', Stand p l e R s m args below meth c T' (locs ++ [⟨a, j.toNatClampNeg⟩]) cells slots ∧ T'.heap = h' ∧ Wr h h' a j.toNatClampNeg (.int x) ∧ own_AI Z h' a n (own_set f i x) ∧ ∀ target, Steps p.tables e below (T'.setTop { g with pc := g.pc + 1, stack := rest }) target → Steps p.tables e below (T.setTop g) target := by
  obtain ⟨cl, B, r1, r2, r3⟩ := A
  obtain ⟨T', h', X', e', W, st⟩ := stI X hx hZ eT B (own_in r1 hj hi) hg hs hd
  exact ⟨T', h', X', e', W, (own_A_set ⟨cl, B, r1, r2, r3⟩ W hj hi).congr fun k _ => by unfold own_set; split <;> rfl, st⟩
theorem own_bastore (X : Stand p l e R s m args below meth c T locs cells slots) (hx : p.tables.exec = Jvm.exec) (hZ : Z.Warmed39 s.vm) (eT : T.heap = h) {f : Nat → Int32} {x : Int32} (A : own_AB Z h a n f) (hj : j.toInt = (i : Int)) (hi : i < n) (hg : g.method = m) (hs : g.stack = .int x :: .int j :: .ref a :: rest) (hd : decode c.code g.pc = .ok (.bastore, 1)) :
    ∃ T' h', Stand p l e R s m args below meth c T' (locs ++ [⟨a, j.toNatClampNeg⟩]) cells slots ∧ T'.heap = h' ∧ Wr h h' a j.toNatClampNeg (.int (nar .byte x)) ∧ own_AB Z h' a n (own_set f i (x.toInt8.toInt32)) ∧ ∀ target, Steps p.tables e below (T'.setTop { g with pc := g.pc + 1, stack := rest }) target → Steps p.tables e below (T.setTop g) target := by
  obtain ⟨cl, B, r1, r2, r3⟩ := A
  obtain ⟨T', h', X', e', W, st⟩ := stB X hx hZ eT B (own_in r1 hj hi) hg hs hd
  exact ⟨T', h', X', e', W, (own_A_set ⟨cl, B, r1, r2, r3⟩ W hj hi).congr fun k _ => by unfold own_set; split <;> rfl, st⟩
end OwnArrSteps

def own_con (k : Int32) (v : Int64) : Int64 := if k < (6 : Int32) then (0 : Int64) else v
theorem own_a {x va : Int32} (h : va = ((x &&& (2147483647 : Int32)) % (13 : Int32))) : va.toInt = ((va.toInt.toNat : Nat) : Int) ∧ va.toInt.toNat < 13 := by
  have e := Jvm.Kit.i32_mask x 2147483647 (k := 31) (by decide) (by decide)
  have e2 : ((x &&& 2147483647) % 13).toInt = (x &&& 2147483647).toInt % 13 := Jvm.Kit.i32_rem_nonneg (by omega)
  rw [← h] at e2
  omega
theorem own_b {x y va vb : Int32} (h : va = ((x &&& (2147483647 : Int32)) % (13 : Int32))) (hb : vb = (((va + (1 : Int32)) + ((y &&& (2147483647 : Int32)) % (12 : Int32))) % (13 : Int32))) : vb.toInt = ((vb.toInt.toNat : Nat) : Int) ∧ vb.toInt.toNat < 13 ∧ vb.toInt.toNat ≠ va.toInt.toNat := by
  have ha := own_a h
  have e := Jvm.Kit.i32_mask y 2147483647 (k := 31) (by decide) (by decide)
  have e2 : ((y &&& 2147483647) % 12).toInt = (y &&& 2147483647).toInt % 12 := Jvm.Kit.i32_rem_nonneg (by omega)
  have o1 : (1 : Int32).toInt = 1 := rfl
  have e3 : (va + 1).toInt = va.toInt + 1 := by rw [Jvm.Kit.i32_add] <;> rw [o1] <;> omega
  have e4 : ((va + 1) + ((y &&& 2147483647) % 12)).toInt = va.toInt + 1 + (y &&& 2147483647).toInt % 12 := by rw [Jvm.Kit.i32_add] <;> rw [e3, e2] <;> omega
  have e5 : (((va + 1) + ((y &&& 2147483647) % 12)) % 13).toInt = (va.toInt + 1 + (y &&& 2147483647).toInt % 12) % 13 := by
    rw [Jvm.Kit.i32_rem_nonneg (by omega), e4]; rfl
  rw [← hb] at e5
  omega
def own_one (k a : Nat) (x : Int64) : Int64 := if k = a then x else 0
theorem own_two {a b : Nat} (h : b ≠ a) (x y : Int64) (k : Nat) : own_set (own_set (fun _ => (0 : Int64)) a x) b y k = own_one k a x + own_one k b y := by
  unfold own_set own_one
  by_cases q : k = b
  · subst q; simp [h]
  · simp [q]
theorem own_sum1 (a : Nat) (ha : a < 13) (x : Int64) : own_one 6 a x + own_one 7 a x + own_one 8 a x + own_one 9 a x + own_one 10 a x + own_one 11 a x + own_one 12 a x = if a < 6 then 0 else x := by
  have q : a = 0 ∨ a = 1 ∨ a = 2 ∨ a = 3 ∨ a = 4 ∨ a = 5 ∨ a = 6 ∨ a = 7 ∨ a = 8 ∨ a = 9 ∨ a = 10 ∨ a = 11 ∨ a = 12 := by omega
  rcases q with rfl | rfl | rfl | rfl | rfl | rfl | rfl | rfl | rfl | rfl | rfl | rfl | rfl <;> simp [own_one]
theorem own_con_n {v : Int32} (hv : v.toInt = ((v.toInt.toNat : Nat) : Int)) (x : Int64) : own_con v x = if v.toInt.toNat < 6 then 0 else x := by
  unfold own_con
  have q : v < (6 : Int32) ↔ v.toInt.toNat < 6 := by rw [Int32.lt_iff_toInt_lt, show (6 : Int32).toInt = 6 from rfl]; omega
  simp only [q]
theorem own_add4 (a b c d : Int64) : (a + b) + (c + d) = (a + c) + (b + d) := by rw [Int64.add_assoc, ← Int64.add_assoc b, Int64.add_comm b c, Int64.add_assoc c, ← Int64.add_assoc a]
theorem own_pen {x0 y0 va vb : Int32} {x y : Int64} {fv : Nat → Int64} (h : va = ((x0 &&& (2147483647 : Int32)) % (13 : Int32))) (hb : vb = (((va + (1 : Int32)) + ((y0 &&& (2147483647 : Int32)) % (12 : Int32))) % (13 : Int32))) (hf : fv = own_set (own_set (fun _ => (0 : Int64)) va.toInt.toNat x) vb.toInt.toNat y) :
    ((((((fv 6 + fv 7) + fv 8) + fv 9) + fv 10) + fv 11) + fv 12) = (own_con va x + own_con vb y) := by
  have ha := own_a h
  have hb := own_b h hb
  subst hf
  simp only [own_two hb.2.2]
  rw [own_con_n ha.1, own_con_n hb.1, ← own_sum1 _ ha.2, ← own_sum1 _ hb.2.1]
  simp only [own_add4]

theorem pn_0 : plainName "java/lang/Record" = true := by first | (simp [plainName, overriddenIn]; done) | decide +kernel
theorem d2_0 : decode jdk_30_method_1_code 0 = .ok (.aload_n 0, 1) := by decide +kernel
theorem d2_1 : decode jdk_30_method_1_code 1 = .ok (.invokespecial 1, 3) := by decide +kernel
theorem d2_4 : decode jdk_30_method_1_code 4 = .ok (.return_, 1) := by decide +kernel
set_option maxRecDepth 65536 in
set_option maxHeartbeats 4000000 in
theorem ef_2 (m : MethodId) (a0 : Addr) : entryFrame m #[(.ref a0)] 1 = mkF m 0 #[.val (.ref a0)] [] := by first | (simp [entryFrame, mkF, argsToLocals, Value.category]; done) | rfl
set_option maxRecDepth 65536 in
set_option maxHeartbeats 40000000 in
theorem rm2 (l : Launch) (Z : State) (aw : Array Value) (hw : ∀ d ∈ tables_1, d.before aw Z = true) {ws : List Jvm.Cond} (a0 : Addr)  (h0 : Heap) (n0 : Nat) (Z0 : n0 ≤ h0.size)  :
    own_Met l Z (⟨"java/lang/Record", "<init>", "()V"⟩ : MethodName) jdk_30_method_1_code 1 none ws ({ frames := 1, cells := 0, slots := 0, locals := 12 } : Room) #[(.ref a0)] h0 (own_Pq none h0) := by
  refine own_body (plainFor_of_name pn_0) ?_
  intro p e s m below meth c s₁ hx hZ hby hml hown hnm hret hlk X0 e0
  replace hown : s.vm.findClass "java/lang/Record" = some m.cls := hown
  replace hml : c.maxLocals = 1 := hml
  obtain ⟨P, hP⟩ : ∃ P, P = own_P below s (own_Pq none h0) ({ frames := 1, cells := 0, slots := 0, locals := 12 } : Room).cells ({ frames := 1, cells := 0, slots := 0, locals := 12 } : Room).slots := ⟨_, rfl⟩
  rw [← hP]
  refine own_cast (ef_2 m a0) ?_
  refine own_go (T' := s₁) (f' := (mkF m 1 #[.val (.ref a0)] [(.ref a0)])) (fun t kt => ?_) ?_
  · show Steps p.tables e below (s₁.setTop (mkF m 0 #[.val (.ref a0)] [])) t
    refine XS.aloadN X0.here hx rfl (hb hby d2_0) rfl rfl ?_
    show Steps p.tables e below (s₁.setTop (mkF m 1 #[.val (.ref a0)] [(.ref a0)])) t
    exact kt
  obtain ⟨T1, X1, e1, st1⟩ := initO X0 hx hZ hown (hw _ (List.mem_of_getElem? (i := 13) rfl)) (hw _ (List.mem_of_getElem? (i := 14) rfl)) (hw _ (List.mem_of_getElem? (i := 15) rfl)) e0 (g := (mkF m 1 #[.val (.ref a0)] [(.ref a0)])) rfl (by rw [hml]; rfl) rfl (hb hby d2_1) (by decide) (W := 0) (by show 2 * 0 + _ ≤ _; exact Nat.le_of_eq rfl) (by decide)
  refine own_go st1 ?_
  exact own_retV X1 hP hx hlk e1 hret (hb hby d2_4) (by decide) (by decide) ⟨rfl, rfl, rfl⟩
theorem pd_0 : parseMethodDescriptor "()V" = some ⟨[], none⟩ := by decide +kernel
theorem pn_1 : plainName "com/example/slotwise/slotwise/Itc2007Score" = true := by first | (simp [plainName, overriddenIn]; done) | decide +kernel
theorem d1_0 : decode prog_21_method_1_code 0 = .ok (.aload_n 0, 1) := by decide +kernel
theorem d1_1 : decode prog_21_method_1_code 1 = .ok (.invokespecial 1, 3) := by decide +kernel
theorem d1_4 : decode prog_21_method_1_code 4 = .ok (.aload_n 0, 1) := by decide +kernel
theorem d1_5 : decode prog_21_method_1_code 5 = .ok (.iload_n 1, 1) := by decide +kernel
theorem d1_6 : decode prog_21_method_1_code 6 = .ok (.putfield 7, 3) := by decide +kernel
theorem d1_9 : decode prog_21_method_1_code 9 = .ok (.aload_n 0, 1) := by decide +kernel
theorem d1_10 : decode prog_21_method_1_code 10 = .ok (.lload_n 2, 1) := by decide +kernel
theorem d1_11 : decode prog_21_method_1_code 11 = .ok (.putfield 13, 3) := by decide +kernel
theorem d1_14 : decode prog_21_method_1_code 14 = .ok (.aload_n 0, 1) := by decide +kernel
theorem d1_15 : decode prog_21_method_1_code 15 = .ok (.lload 4, 2) := by decide +kernel
theorem d1_17 : decode prog_21_method_1_code 17 = .ok (.putfield 17, 3) := by decide +kernel
theorem d1_20 : decode prog_21_method_1_code 20 = .ok (.aload_n 0, 1) := by decide +kernel
theorem d1_21 : decode prog_21_method_1_code 21 = .ok (.lload 6, 2) := by decide +kernel
theorem d1_23 : decode prog_21_method_1_code 23 = .ok (.putfield 20, 3) := by decide +kernel
theorem d1_26 : decode prog_21_method_1_code 26 = .ok (.aload_n 0, 1) := by decide +kernel
theorem d1_27 : decode prog_21_method_1_code 27 = .ok (.lload 8, 2) := by decide +kernel
theorem d1_29 : decode prog_21_method_1_code 29 = .ok (.putfield 23, 3) := by decide +kernel
theorem d1_32 : decode prog_21_method_1_code 32 = .ok (.aload_n 0, 1) := by decide +kernel
theorem d1_33 : decode prog_21_method_1_code 33 = .ok (.lload 10, 2) := by decide +kernel
theorem d1_35 : decode prog_21_method_1_code 35 = .ok (.putfield 26, 3) := by decide +kernel
theorem d1_38 : decode prog_21_method_1_code 38 = .ok (.aload_n 0, 1) := by decide +kernel
theorem d1_39 : decode prog_21_method_1_code 39 = .ok (.lload 12, 2) := by decide +kernel
theorem d1_41 : decode prog_21_method_1_code 41 = .ok (.putfield 29, 3) := by decide +kernel
theorem d1_44 : decode prog_21_method_1_code 44 = .ok (.aload_n 0, 1) := by decide +kernel
theorem d1_45 : decode prog_21_method_1_code 45 = .ok (.lload 14, 2) := by decide +kernel
theorem d1_47 : decode prog_21_method_1_code 47 = .ok (.putfield 32, 3) := by decide +kernel
theorem d1_50 : decode prog_21_method_1_code 50 = .ok (.aload_n 0, 1) := by decide +kernel
theorem d1_51 : decode prog_21_method_1_code 51 = .ok (.lload 16, 2) := by decide +kernel
theorem d1_53 : decode prog_21_method_1_code 53 = .ok (.putfield 35, 3) := by decide +kernel
theorem d1_56 : decode prog_21_method_1_code 56 = .ok (.aload_n 0, 1) := by decide +kernel
theorem d1_57 : decode prog_21_method_1_code 57 = .ok (.lload 18, 2) := by decide +kernel
theorem d1_59 : decode prog_21_method_1_code 59 = .ok (.putfield 38, 3) := by decide +kernel
theorem d1_62 : decode prog_21_method_1_code 62 = .ok (.aload_n 0, 1) := by decide +kernel
theorem d1_63 : decode prog_21_method_1_code 63 = .ok (.lload 20, 2) := by decide +kernel
theorem d1_65 : decode prog_21_method_1_code 65 = .ok (.putfield 41, 3) := by decide +kernel
theorem d1_68 : decode prog_21_method_1_code 68 = .ok (.aload_n 0, 1) := by decide +kernel
theorem d1_69 : decode prog_21_method_1_code 69 = .ok (.lload 22, 2) := by decide +kernel
theorem d1_71 : decode prog_21_method_1_code 71 = .ok (.putfield 44, 3) := by decide +kernel
theorem d1_74 : decode prog_21_method_1_code 74 = .ok (.aload_n 0, 1) := by decide +kernel
theorem d1_75 : decode prog_21_method_1_code 75 = .ok (.lload 24, 2) := by decide +kernel
theorem d1_77 : decode prog_21_method_1_code 77 = .ok (.putfield 47, 3) := by decide +kernel
theorem d1_80 : decode prog_21_method_1_code 80 = .ok (.return_, 1) := by decide +kernel
set_option maxRecDepth 65536 in
set_option maxHeartbeats 4000000 in
theorem ef_1 (m : MethodId) (a0 : Addr) (p1 : Int32) (q2 : Int64) (q3 : Int64) (q4 : Int64) (q5 : Int64) (q6 : Int64) (q7 : Int64) (q8 : Int64) (q9 : Int64) (q10 : Int64) (q11 : Int64) (q12 : Int64) (q13 : Int64) : entryFrame m #[(.ref a0), (.int p1), (.long q2), (.long q3), (.long q4), (.long q5), (.long q6), (.long q7), (.long q8), (.long q9), (.long q10), (.long q11), (.long q12), (.long q13)] 26 = mkF m 0 #[.val (.ref a0), .val (.int p1), .val (.long q2), .second, .val (.long q3), .second, .val (.long q4), .second, .val (.long q5), .second, .val (.long q6), .second, .val (.long q7), .second, .val (.long q8), .second, .val (.long q9), .second, .val (.long q10), .second, .val (.long q11), .second, .val (.long q12), .second, .val (.long q13), .second] [] := by first | (simp [entryFrame, mkF, argsToLocals, Value.category]; done) | rfl
set_option maxRecDepth 65536 in
set_option maxHeartbeats 40000000 in
theorem rm1 (l : Launch) (Z : State) (aw : Array Value) (hw : ∀ d ∈ tables_1, d.before aw Z = true) {ws : List Jvm.Cond} (a0 : Addr) (p1 : Int32) (q2 : Int64) (q3 : Int64) (q4 : Int64) (q5 : Int64) (q6 : Int64) (q7 : Int64) (q8 : Int64) (q9 : Int64) (q10 : Int64) (q11 : Int64) (q12 : Int64) (q13 : Int64)  (h0 : Heap) (n0 : Nat) (Z0 : n0 ≤ h0.size) (E_a0 : Exa Z h0 a0 "com/example/slotwise/slotwise/Itc2007Score") (K_a0 : own_K h0 a0) (g_a0 : n0 ≤ a0) :
    own_Met l Z (⟨"com/example/slotwise/slotwise/Itc2007Score", "<init>", "(IJJJJJJJJJJJJ)V"⟩ : MethodName) prog_21_method_1_code 26 none ws ({ frames := 2, cells := 0, slots := 0, locals := 24 } : Room) #[(.ref a0), (.int p1), (.long q2), (.long q3), (.long q4), (.long q5), (.long q6), (.long q7), (.long q8), (.long q9), (.long q10), (.long q11), (.long q12), (.long q13)] h0 (fun v h L => v = none ∧ Fr n0 L ∧ Keep h0 h [a0] ∧ Exa Z h a0 "com/example/slotwise/slotwise/Itc2007Score" ∧ Fld Z h a0 "com/example/slotwise/slotwise/Itc2007Score" "unplaced" "I" (.int p1) ∧ Fld Z h a0 "com/example/slotwise/slotwise/Itc2007Score" "conflicts" "J" (.long q2) ∧ Fld Z h a0 "com/example/slotwise/slotwise/Itc2007Score" "roomOccupancy" "J" (.long q3) ∧ Fld Z h a0 "com/example/slotwise/slotwise/Itc2007Score" "periodUtilisation" "J" (.long q4) ∧ Fld Z h a0 "com/example/slotwise/slotwise/Itc2007Score" "periodRelated" "J" (.long q5) ∧ Fld Z h a0 "com/example/slotwise/slotwise/Itc2007Score" "roomRelated" "J" (.long q6) ∧ Fld Z h a0 "com/example/slotwise/slotwise/Itc2007Score" "twoInARow" "J" (.long q7) ∧ Fld Z h a0 "com/example/slotwise/slotwise/Itc2007Score" "twoInADay" "J" (.long q8) ∧ Fld Z h a0 "com/example/slotwise/slotwise/Itc2007Score" "periodSpread" "J" (.long q9) ∧ Fld Z h a0 "com/example/slotwise/slotwise/Itc2007Score" "mixedDurations" "J" (.long q10) ∧ Fld Z h a0 "com/example/slotwise/slotwise/Itc2007Score" "frontLoad" "J" (.long q11) ∧ Fld Z h a0 "com/example/slotwise/slotwise/Itc2007Score" "roomPenalty" "J" (.long q12) ∧ Fld Z h a0 "com/example/slotwise/slotwise/Itc2007Score" "periodPenalty" "J" (.long q13)) := by
  refine own_body (plainFor_of_name pn_1) ?_
  intro p e s m below meth c s₁ hx hZ hby hml hown hnm hret hlk X0 e0
  replace hown : s.vm.findClass "com/example/slotwise/slotwise/Itc2007Score" = some m.cls := hown
  replace hml : c.maxLocals = 26 := hml
  have N0 := Fr.nil n0
  have K0 := Keep.refl h0 [a0]
  obtain ⟨P, hP⟩ : ∃ P, P = own_P below s (fun v h L => v = none ∧ Fr n0 L ∧ Keep h0 h [a0] ∧ Exa Z h a0 "com/example/slotwise/slotwise/Itc2007Score" ∧ Fld Z h a0 "com/example/slotwise/slotwise/Itc2007Score" "unplaced" "I" (.int p1) ∧ Fld Z h a0 "com/example/slotwise/slotwise/Itc2007Score" "conflicts" "J" (.long q2) ∧ Fld Z h a0 "com/example/slotwise/slotwise/Itc2007Score" "roomOccupancy" "J" (.long q3) ∧ Fld Z h a0 "com/example/slotwise/slotwise/Itc2007Score" "periodUtilisation" "J" (.long q4) ∧ Fld Z h a0 "com/example/slotwise/slotwise/Itc2007Score" "periodRelated" "J" (.long q5) ∧ Fld Z h a0 "com/example/slotwise/slotwise/Itc2007Score" "roomRelated" "J" (.long q6) ∧ Fld Z h a0 "com/example/slotwise/slotwise/Itc2007Score" "twoInARow" "J" (.long q7) ∧ Fld Z h a0 "com/example/slotwise/slotwise/Itc2007Score" "twoInADay" "J" (.long q8) ∧ Fld Z h a0 "com/example/slotwise/slotwise/Itc2007Score" "periodSpread" "J" (.long q9) ∧ Fld Z h a0 "com/example/slotwise/slotwise/Itc2007Score" "mixedDurations" "J" (.long q10) ∧ Fld Z h a0 "com/example/slotwise/slotwise/Itc2007Score" "frontLoad" "J" (.long q11) ∧ Fld Z h a0 "com/example/slotwise/slotwise/Itc2007Score" "roomPenalty" "J" (.long q12) ∧ Fld Z h a0 "com/example/slotwise/slotwise/Itc2007Score" "periodPenalty" "J" (.long q13)) ({ frames := 2, cells := 0, slots := 0, locals := 24 } : Room).cells ({ frames := 2, cells := 0, slots := 0, locals := 24 } : Room).slots := ⟨_, rfl⟩
  rw [← hP]
  refine own_cast (ef_1 m a0 p1 q2 q3 q4 q5 q6 q7 q8 q9 q10 q11 q12 q13) ?_
  refine own_go (T' := s₁) (f' := (mkF m 1 #[.val (.ref a0), .val (.int p1), .val (.long q2), .second, .val (.long q3), .second, .val (.long q4), .second, .val (.long q5), .second, .val (.long q6), .second, .val (.long q7), .second, .val (.long q8), .second, .val (.long q9), .second, .val (.long q10), .second, .val (.long q11), .second, .val (.long q12), .second, .val (.long q13), .second] [(.ref a0)])) (fun t kt => ?_) ?_
  · show Steps p.tables e below (s₁.setTop (mkF m 0 #[.val (.ref a0), .val (.int p1), .val (.long q2), .second, .val (.long q3), .second, .val (.long q4), .second, .val (.long q5), .second, .val (.long q6), .second, .val (.long q7), .second, .val (.long q8), .second, .val (.long q9), .second, .val (.long q10), .second, .val (.long q11), .second, .val (.long q12), .second, .val (.long q13), .second] [])) t
    refine XS.aloadN X0.here hx rfl (hb hby d1_0) rfl rfl ?_
    show Steps p.tables e below (s₁.setTop (mkF m 1 #[.val (.ref a0), .val (.int p1), .val (.long q2), .second, .val (.long q3), .second, .val (.long q4), .second, .val (.long q5), .second, .val (.long q6), .second, .val (.long q7), .second, .val (.long q8), .second, .val (.long q9), .second, .val (.long q10), .second, .val (.long q11), .second, .val (.long q12), .second, .val (.long q13), .second] [(.ref a0)])) t
    exact kt
  refine own_callCp X0 hx hZ hown e0 rfl (hw _ (List.mem_of_getElem? (i := 8) rfl)) (hw _ (List.mem_of_getElem? (i := 9) rfl)) (hw _ (List.mem_of_getElem? (i := 11) rfl)) (hw _ (List.mem_of_getElem? (i := 12) rfl)) (by decide) (rm2 l Z aw hw a0 h0 n0 Z0) (g := (mkF m 1 #[.val (.ref a0), .val (.int p1), .val (.long q2), .second, .val (.long q3), .second, .val (.long q4), .second, .val (.long q5), .second, .val (.long q6), .second, .val (.long q7), .second, .val (.long q8), .second, .val (.long q9), .second, .val (.long q10), .second, .val (.long q11), .second, .val (.long q12), .second, .val (.long q13), .second] [(.ref a0)])) rfl (by rw [hml]; rfl) (argsL := []) (rest := []) (lenOf pd_0 rfl) rfl rfl (W := 0) (by show 2 * 0 + _ ≤ _; exact Nat.le_of_eq rfl) (hb hby d1_1) (by decide) (by decide) (by decide) (by decide) ?_
  intro T1 X1 e1
  refine own_go (T' := T1) (f' := (mkF m 6 #[.val (.ref a0), .val (.int p1), .val (.long q2), .second, .val (.long q3), .second, .val (.long q4), .second, .val (.long q5), .second, .val (.long q6), .second, .val (.long q7), .second, .val (.long q8), .second, .val (.long q9), .second, .val (.long q10), .second, .val (.long q11), .second, .val (.long q12), .second, .val (.long q13), .second] [(.int p1), (.ref a0)])) (fun t kt => ?_) ?_
  · show Steps p.tables e below (T1.setTop (mkF m 4 #[.val (.ref a0), .val (.int p1), .val (.long q2), .second, .val (.long q3), .second, .val (.long q4), .second, .val (.long q5), .second, .val (.long q6), .second, .val (.long q7), .second, .val (.long q8), .second, .val (.long q9), .second, .val (.long q10), .second, .val (.long q11), .second, .val (.long q12), .second, .val (.long q13), .second] [])) t
    refine XS.aloadN X1.here hx rfl (hb hby d1_4) rfl rfl ?_
    show Steps p.tables e below (T1.setTop (mkF m 5 #[.val (.ref a0), .val (.int p1), .val (.long q2), .second, .val (.long q3), .second, .val (.long q4), .second, .val (.long q5), .second, .val (.long q6), .second, .val (.long q7), .second, .val (.long q8), .second, .val (.long q9), .second, .val (.long q10), .second, .val (.long q11), .second, .val (.long q12), .second, .val (.long q13), .second] [(.ref a0)])) t
    refine XS.iloadN X1.here hx rfl (hb hby d1_5) rfl ?_
    show Steps p.tables e below (T1.setTop (mkF m 6 #[.val (.ref a0), .val (.int p1), .val (.long q2), .second, .val (.long q3), .second, .val (.long q4), .second, .val (.long q5), .second, .val (.long q6), .second, .val (.long q7), .second, .val (.long q8), .second, .val (.long q9), .second, .val (.long q10), .second, .val (.long q11), .second, .val (.long q12), .second, .val (.long q13), .second] [(.int p1), (.ref a0)])) t
    exact kt
  obtain ⟨uv2, F2_unplaced⟩ := fld_laid E_a0 K_a0 (hw _ (List.mem_of_getElem? (i := 3) rfl)) (Or.inr (hw _ (List.mem_of_getElem? (i := 17) rfl)))
  obtain ⟨T2, h2, X2, e2, W2, st2⟩ := putF X1 hx hZ hown (host := "") (Or.inl (hw _ (List.mem_of_getElem? (i := 16) rfl))) Via.refl e1 F2_unplaced E_a0 (Or.inr ⟨(hw _ (List.mem_of_getElem? (i := 17) rfl)), rfl, hnm⟩) (hw _ (List.mem_of_getElem? (i := 3) rfl)) (ty := .int) (by decide) rfl rfl (g := (mkF m 6 #[.val (.ref a0), .val (.int p1), .val (.long q2), .second, .val (.long q3), .second, .val (.long q4), .second, .val (.long q5), .second, .val (.long q6), .second, .val (.long q7), .second, .val (.long q8), .second, .val (.long q9), .second, .val (.long q10), .second, .val (.long q11), .second, .val (.long q12), .second, .val (.long q13), .second] [(.int p1), (.ref a0)])) rfl rfl (hb hby d1_6)
  refine own_go st2 ?_
  replace E_a0 := (E_a0.wr W2)
  replace F2_unplaced := (F2_unplaced.same W2)
  replace K_a0 := own_K_wr K_a0 W2
  have N2 := Fr.snoc X2 N0 g_a0
  have Z2 : n0 ≤ h2.size := Nat.le_trans Z0 (Keep.of_wr W2).1
  have KK2 := K0.wr W2 (Or.inl (by simp))
  refine own_go (T' := T2) (f' := (mkF m 11 #[.val (.ref a0), .val (.int p1), .val (.long q2), .second, .val (.long q3), .second, .val (.long q4), .second, .val (.long q5), .second, .val (.long q6), .second, .val (.long q7), .second, .val (.long q8), .second, .val (.long q9), .second, .val (.long q10), .second, .val (.long q11), .second, .val (.long q12), .second, .val (.long q13), .second] [(.long q2), (.ref a0)])) (fun t kt => ?_) ?_
  · show Steps p.tables e below (T2.setTop (mkF m 9 #[.val (.ref a0), .val (.int p1), .val (.long q2), .second, .val (.long q3), .second, .val (.long q4), .second, .val (.long q5), .second, .val (.long q6), .second, .val (.long q7), .second, .val (.long q8), .second, .val (.long q9), .second, .val (.long q10), .second, .val (.long q11), .second, .val (.long q12), .second, .val (.long q13), .second] [])) t
    refine XS.aloadN X2.here hx rfl (hb hby d1_9) rfl rfl ?_
    show Steps p.tables e below (T2.setTop (mkF m 10 #[.val (.ref a0), .val (.int p1), .val (.long q2), .second, .val (.long q3), .second, .val (.long q4), .second, .val (.long q5), .second, .val (.long q6), .second, .val (.long q7), .second, .val (.long q8), .second, .val (.long q9), .second, .val (.long q10), .second, .val (.long q11), .second, .val (.long q12), .second, .val (.long q13), .second] [(.ref a0)])) t
    refine XS.lloadN X2.here hx rfl (hb hby d1_10) rfl ?_
    show Steps p.tables e below (T2.setTop (mkF m 11 #[.val (.ref a0), .val (.int p1), .val (.long q2), .second, .val (.long q3), .second, .val (.long q4), .second, .val (.long q5), .second, .val (.long q6), .second, .val (.long q7), .second, .val (.long q8), .second, .val (.long q9), .second, .val (.long q10), .second, .val (.long q11), .second, .val (.long q12), .second, .val (.long q13), .second] [(.long q2), (.ref a0)])) t
    exact kt
  obtain ⟨uv3, F3_conflicts⟩ := fld_laid E_a0 K_a0 (hw _ (List.mem_of_getElem? (i := 3) rfl)) (Or.inr (hw _ (List.mem_of_getElem? (i := 19) rfl)))
  obtain ⟨T3, h3, X3, e3, W3, st3⟩ := putF X2 hx hZ hown (host := "") (Or.inl (hw _ (List.mem_of_getElem? (i := 18) rfl))) Via.refl e2 F3_conflicts E_a0 (Or.inr ⟨(hw _ (List.mem_of_getElem? (i := 19) rfl)), rfl, hnm⟩) (hw _ (List.mem_of_getElem? (i := 3) rfl)) (ty := .long) (by decide) rfl rfl (g := (mkF m 11 #[.val (.ref a0), .val (.int p1), .val (.long q2), .second, .val (.long q3), .second, .val (.long q4), .second, .val (.long q5), .second, .val (.long q6), .second, .val (.long q7), .second, .val (.long q8), .second, .val (.long q9), .second, .val (.long q10), .second, .val (.long q11), .second, .val (.long q12), .second, .val (.long q13), .second] [(.long q2), (.ref a0)])) rfl rfl (hb hby d1_11)
  refine own_go st3 ?_
  replace E_a0 := (E_a0.wr W3)
  replace F2_unplaced := (F2_unplaced.other W3 (Or.inr (slot_ne (Or.inr (hw _ (List.mem_of_getElem? (i := 17) rfl))) (Or.inr (hw _ (List.mem_of_getElem? (i := 19) rfl))) (by decide) (t := .int) (t' := .long) (by decide) (by decide))))
  replace F3_conflicts := (F3_conflicts.same W3)
  replace K_a0 := own_K_wr K_a0 W3
  have N3 := Fr.snoc X3 N2 g_a0
  have Z3 : n0 ≤ h3.size := Nat.le_trans Z2 (Keep.of_wr W3).1
  have KK3 := KK2.wr W3 (Or.inl (by simp))
  refine own_go (T' := T3) (f' := (mkF m 17 #[.val (.ref a0), .val (.int p1), .val (.long q2), .second, .val (.long q3), .second, .val (.long q4), .second, .val (.long q5), .second, .val (.long q6), .second, .val (.long q7), .second, .val (.long q8), .second, .val (.long q9), .second, .val (.long q10), .second, .val (.long q11), .second, .val (.long q12), .second, .val (.long q13), .second] [(.long q3), (.ref a0)])) (fun t kt => ?_) ?_
  · show Steps p.tables e below (T3.setTop (mkF m 14 #[.val (.ref a0), .val (.int p1), .val (.long q2), .second, .val (.long q3), .second, .val (.long q4), .second, .val (.long q5), .second, .val (.long q6), .second, .val (.long q7), .second, .val (.long q8), .second, .val (.long q9), .second, .val (.long q10), .second, .val (.long q11), .second, .val (.long q12), .second, .val (.long q13), .second] [])) t
    refine XS.aloadN X3.here hx rfl (hb hby d1_14) rfl rfl ?_
    show Steps p.tables e below (T3.setTop (mkF m 15 #[.val (.ref a0), .val (.int p1), .val (.long q2), .second, .val (.long q3), .second, .val (.long q4), .second, .val (.long q5), .second, .val (.long q6), .second, .val (.long q7), .second, .val (.long q8), .second, .val (.long q9), .second, .val (.long q10), .second, .val (.long q11), .second, .val (.long q12), .second, .val (.long q13), .second] [(.ref a0)])) t
    refine XS.lload X3.here hx rfl (hb hby d1_15) rfl ?_
    show Steps p.tables e below (T3.setTop (mkF m 17 #[.val (.ref a0), .val (.int p1), .val (.long q2), .second, .val (.long q3), .second, .val (.long q4), .second, .val (.long q5), .second, .val (.long q6), .second, .val (.long q7), .second, .val (.long q8), .second, .val (.long q9), .second, .val (.long q10), .second, .val (.long q11), .second, .val (.long q12), .second, .val (.long q13), .second] [(.long q3), (.ref a0)])) t
    exact kt
  obtain ⟨uv4, F4_roomOccupancy⟩ := fld_laid E_a0 K_a0 (hw _ (List.mem_of_getElem? (i := 3) rfl)) (Or.inr (hw _ (List.mem_of_getElem? (i := 21) rfl)))
  obtain ⟨T4, h4, X4, e4, W4, st4⟩ := putF X3 hx hZ hown (host := "") (Or.inl (hw _ (List.mem_of_getElem? (i := 20) rfl))) Via.refl e3 F4_roomOccupancy E_a0 (Or.inr ⟨(hw _ (List.mem_of_getElem? (i := 21) rfl)), rfl, hnm⟩) (hw _ (List.mem_of_getElem? (i := 3) rfl)) (ty := .long) (by decide) rfl rfl (g := (mkF m 17 #[.val (.ref a0), .val (.int p1), .val (.long q2), .second, .val (.long q3), .second, .val (.long q4), .second, .val (.long q5), .second, .val (.long q6), .second, .val (.long q7), .second, .val (.long q8), .second, .val (.long q9), .second, .val (.long q10), .second, .val (.long q11), .second, .val (.long q12), .second, .val (.long q13), .second] [(.long q3), (.ref a0)])) rfl rfl (hb hby d1_17)
  refine own_go st4 ?_
  replace E_a0 := (E_a0.wr W4)
  replace F2_unplaced := (F2_unplaced.other W4 (Or.inr (slot_ne (Or.inr (hw _ (List.mem_of_getElem? (i := 17) rfl))) (Or.inr (hw _ (List.mem_of_getElem? (i := 21) rfl))) (by decide) (t := .int) (t' := .long) (by decide) (by decide))))
  replace F3_conflicts := (F3_conflicts.other W4 (Or.inr (slot_ne (Or.inr (hw _ (List.mem_of_getElem? (i := 19) rfl))) (Or.inr (hw _ (List.mem_of_getElem? (i := 21) rfl))) (by decide) (t := .long) (t' := .long) (by decide) (by decide))))
  replace F4_roomOccupancy := (F4_roomOccupancy.same W4)
  replace K_a0 := own_K_wr K_a0 W4
  have N4 := Fr.snoc X4 N3 g_a0
  have Z4 : n0 ≤ h4.size := Nat.le_trans Z3 (Keep.of_wr W4).1
  have KK4 := KK3.wr W4 (Or.inl (by simp))
  refine own_go (T' := T4) (f' := (mkF m 23 #[.val (.ref a0), .val (.int p1), .val (.long q2), .second, .val (.long q3), .second, .val (.long q4), .second, .val (.long q5), .second, .val (.long q6), .second, .val (.long q7), .second, .val (.long q8), .second, .val (.long q9), .second, .val (.long q10), .second, .val (.long q11), .second, .val (.long q12), .second, .val (.long q13), .second] [(.long q4), (.ref a0)])) (fun t kt => ?_) ?_
  · show Steps p.tables e below (T4.setTop (mkF m 20 #[.val (.ref a0), .val (.int p1), .val (.long q2), .second, .val (.long q3), .second, .val (.long q4), .second, .val (.long q5), .second, .val (.long q6), .second, .val (.long q7), .second, .val (.long q8), .second, .val (.long q9), .second, .val (.long q10), .second, .val (.long q11), .second, .val (.long q12), .second, .val (.long q13), .second] [])) t
    refine XS.aloadN X4.here hx rfl (hb hby d1_20) rfl rfl ?_
    show Steps p.tables e below (T4.setTop (mkF m 21 #[.val (.ref a0), .val (.int p1), .val (.long q2), .second, .val (.long q3), .second, .val (.long q4), .second, .val (.long q5), .second, .val (.long q6), .second, .val (.long q7), .second, .val (.long q8), .second, .val (.long q9), .second, .val (.long q10), .second, .val (.long q11), .second, .val (.long q12), .second, .val (.long q13), .second] [(.ref a0)])) t
    refine XS.lload X4.here hx rfl (hb hby d1_21) rfl ?_
    show Steps p.tables e below (T4.setTop (mkF m 23 #[.val (.ref a0), .val (.int p1), .val (.long q2), .second, .val (.long q3), .second, .val (.long q4), .second, .val (.long q5), .second, .val (.long q6), .second, .val (.long q7), .second, .val (.long q8), .second, .val (.long q9), .second, .val (.long q10), .second, .val (.long q11), .second, .val (.long q12), .second, .val (.long q13), .second] [(.long q4), (.ref a0)])) t
    exact kt
  obtain ⟨uv5, F5_periodUtilisation⟩ := fld_laid E_a0 K_a0 (hw _ (List.mem_of_getElem? (i := 3) rfl)) (Or.inr (hw _ (List.mem_of_getElem? (i := 23) rfl)))
  obtain ⟨T5, h5, X5, e5, W5, st5⟩ := putF X4 hx hZ hown (host := "") (Or.inl (hw _ (List.mem_of_getElem? (i := 22) rfl))) Via.refl e4 F5_periodUtilisation E_a0 (Or.inr ⟨(hw _ (List.mem_of_getElem? (i := 23) rfl)), rfl, hnm⟩) (hw _ (List.mem_of_getElem? (i := 3) rfl)) (ty := .long) (by decide) rfl rfl (g := (mkF m 23 #[.val (.ref a0), .val (.int p1), .val (.long q2), .second, .val (.long q3), .second, .val (.long q4), .second, .val (.long q5), .second, .val (.long q6), .second, .val (.long q7), .second, .val (.long q8), .second, .val (.long q9), .second, .val (.long q10), .second, .val (.long q11), .second, .val (.long q12), .second, .val (.long q13), .second] [(.long q4), (.ref a0)])) rfl rfl (hb hby d1_23)
  refine own_go st5 ?_
  replace E_a0 := (E_a0.wr W5)
  replace F2_unplaced := (F2_unplaced.other W5 (Or.inr (slot_ne (Or.inr (hw _ (List.mem_of_getElem? (i := 17) rfl))) (Or.inr (hw _ (List.mem_of_getElem? (i := 23) rfl))) (by decide) (t := .int) (t' := .long) (by decide) (by decide))))
  replace F3_conflicts := (F3_conflicts.other W5 (Or.inr (slot_ne (Or.inr (hw _ (List.mem_of_getElem? (i := 19) rfl))) (Or.inr (hw _ (List.mem_of_getElem? (i := 23) rfl))) (by decide) (t := .long) (t' := .long) (by decide) (by decide))))
  replace F4_roomOccupancy := (F4_roomOccupancy.other W5 (Or.inr (slot_ne (Or.inr (hw _ (List.mem_of_getElem? (i := 21) rfl))) (Or.inr (hw _ (List.mem_of_getElem? (i := 23) rfl))) (by decide) (t := .long) (t' := .long) (by decide) (by decide))))
  replace F5_periodUtilisation := (F5_periodUtilisation.same W5)
  replace K_a0 := own_K_wr K_a0 W5
  have N5 := Fr.snoc X5 N4 g_a0
  have Z5 : n0 ≤ h5.size := Nat.le_trans Z4 (Keep.of_wr W5).1
  have KK5 := KK4.wr W5 (Or.inl (by simp))
  refine own_go (T' := T5) (f' := (mkF m 29 #[.val (.ref a0), .val (.int p1), .val (.long q2), .second, .val (.long q3), .second, .val (.long q4), .second, .val (.long q5), .second, .val (.long q6), .second, .val (.long q7), .second, .val (.long q8), .second, .val (.long q9), .second, .val (.long q10), .second, .val (.long q11), .second, .val (.long q12), .second, .val (.long q13), .second] [(.long q5), (.ref a0)])) (fun t kt => ?_) ?_
  · show Steps p.tables e below (T5.setTop (mkF m 26 #[.val (.ref a0), .val (.int p1), .val (.long q2), .second, .val (.long q3), .second, .val (.long q4), .second, .val (.long q5), .second, .val (.long q6), .second, .val (.long q7), .second, .val (.long q8), .second, .val (.long q9), .second, .val (.long q10), .second, .val (.long q11), .second, .val (.long q12), .second, .val (.long q13), .second] [])) t
    refine XS.aloadN X5.here hx rfl (hb hby d1_26) rfl rfl ?_
    show Steps p.tables e below (T5.setTop (mkF m 27 #[.val (.ref a0), .val (.int p1), .val (.long q2), .second, .val (.long q3), .second, .val (.long q4), .second, .val (.long q5), .second, .val (.long q6), .second, .val (.long q7), .second, .val (.long q8), .second, .val (.long q9), .second, .val (.long q10), .second, .val (.long q11), .second, .val (.long q12), .second, .val (.long q13), .second] [(.ref a0)])) t
    refine XS.lload X5.here hx rfl (hb hby d1_27) rfl ?_
    show Steps p.tables e below (T5.setTop (mkF m 29 #[.val (.ref a0), .val (.int p1), .val (.long q2), .second, .val (.long q3), .second, .val (.long q4), .second, .val (.long q5), .second, .val (.long q6), .second, .val (.long q7), .second, .val (.long q8), .second, .val (.long q9), .second, .val (.long q10), .second, .val (.long q11), .second, .val (.long q12), .second, .val (.long q13), .second] [(.long q5), (.ref a0)])) t
    exact kt
  obtain ⟨uv6, F6_periodRelated⟩ := fld_laid E_a0 K_a0 (hw _ (List.mem_of_getElem? (i := 3) rfl)) (Or.inr (hw _ (List.mem_of_getElem? (i := 25) rfl)))
  obtain ⟨T6, h6, X6, e6, W6, st6⟩ := putF X5 hx hZ hown (host := "") (Or.inl (hw _ (List.mem_of_getElem? (i := 24) rfl))) Via.refl e5 F6_periodRelated E_a0 (Or.inr ⟨(hw _ (List.mem_of_getElem? (i := 25) rfl)), rfl, hnm⟩) (hw _ (List.mem_of_getElem? (i := 3) rfl)) (ty := .long) (by decide) rfl rfl (g := (mkF m 29 #[.val (.ref a0), .val (.int p1), .val (.long q2), .second, .val (.long q3), .second, .val (.long q4), .second, .val (.long q5), .second, .val (.long q6), .second, .val (.long q7), .second, .val (.long q8), .second, .val (.long q9), .second, .val (.long q10), .second, .val (.long q11), .second, .val (.long q12), .second, .val (.long q13), .second] [(.long q5), (.ref a0)])) rfl rfl (hb hby d1_29)
  refine own_go st6 ?_
  replace E_a0 := (E_a0.wr W6)
  replace F2_unplaced := (F2_unplaced.other W6 (Or.inr (slot_ne (Or.inr (hw _ (List.mem_of_getElem? (i := 17) rfl))) (Or.inr (hw _ (List.mem_of_getElem? (i := 25) rfl))) (by decide) (t := .int) (t' := .long) (by decide) (by decide))))
  replace F3_conflicts := (F3_conflicts.other W6 (Or.inr (slot_ne (Or.inr (hw _ (List.mem_of_getElem? (i := 19) rfl))) (Or.inr (hw _ (List.mem_of_getElem? (i := 25) rfl))) (by decide) (t := .long) (t' := .long) (by decide) (by decide))))
  replace F4_roomOccupancy := (F4_roomOccupancy.other W6 (Or.inr (slot_ne (Or.inr (hw _ (List.mem_of_getElem? (i := 21) rfl))) (Or.inr (hw _ (List.mem_of_getElem? (i := 25) rfl))) (by decide) (t := .long) (t' := .long) (by decide) (by decide))))
  replace F5_periodUtilisation := (F5_periodUtilisation.other W6 (Or.inr (slot_ne (Or.inr (hw _ (List.mem_of_getElem? (i := 23) rfl))) (Or.inr (hw _ (List.mem_of_getElem? (i := 25) rfl))) (by decide) (t := .long) (t' := .long) (by decide) (by decide))))
  replace F6_periodRelated := (F6_periodRelated.same W6)
  replace K_a0 := own_K_wr K_a0 W6
  have N6 := Fr.snoc X6 N5 g_a0
  have Z6 : n0 ≤ h6.size := Nat.le_trans Z5 (Keep.of_wr W6).1
  have KK6 := KK5.wr W6 (Or.inl (by simp))
  refine own_go (T' := T6) (f' := (mkF m 35 #[.val (.ref a0), .val (.int p1), .val (.long q2), .second, .val (.long q3), .second, .val (.long q4), .second, .val (.long q5), .second, .val (.long q6), .second, .val (.long q7), .second, .val (.long q8), .second, .val (.long q9), .second, .val (.long q10), .second, .val (.long q11), .second, .val (.long q12), .second, .val (.long q13), .second] [(.long q6), (.ref a0)])) (fun t kt => ?_) ?_
  · show Steps p.tables e below (T6.setTop (mkF m 32 #[.val (.ref a0), .val (.int p1), .val (.long q2), .second, .val (.long q3), .second, .val (.long q4), .second, .val (.long q5), .second, .val (.long q6), .second, .val (.long q7), .second, .val (.long q8), .second, .val (.long q9), .second, .val (.long q10), .second, .val (.long q11), .second, .val (.long q12), .second, .val (.long q13), .second] [])) t
    refine XS.aloadN X6.here hx rfl (hb hby d1_32) rfl rfl ?_
    show Steps p.tables e below (T6.setTop (mkF m 33 #[.val (.ref a0), .val (.int p1), .val (.long q2), .second, .val (.long q3), .second, .val (.long q4), .second, .val (.long q5), .second, .val (.long q6), .second, .val (.long q7), .second, .val (.long q8), .second, .val (.long q9), .second, .val (.long q10), .second, .val (.long q11), .second, .val (.long q12), .second, .val (.long q13), .second] [(.ref a0)])) t
    refine XS.lload X6.here hx rfl (hb hby d1_33) rfl ?_
    show Steps p.tables e below (T6.setTop (mkF m 35 #[.val (.ref a0), .val (.int p1), .val (.long q2), .second, .val (.long q3), .second, .val (.long q4), .second, .val (.long q5), .second, .val (.long q6), .second, .val (.long q7), .second, .val (.long q8), .second, .val (.long q9), .second, .val (.long q10), .second, .val (.long q11), .second, .val (.long q12), .second, .val (.long q13), .second] [(.long q6), (.ref a0)])) t
    exact kt
  obtain ⟨uv7, F7_roomRelated⟩ := fld_laid E_a0 K_a0 (hw _ (List.mem_of_getElem? (i := 3) rfl)) (Or.inr (hw _ (List.mem_of_getElem? (i := 27) rfl)))
  obtain ⟨T7, h7, X7, e7, W7, st7⟩ := putF X6 hx hZ hown (host := "") (Or.inl (hw _ (List.mem_of_getElem? (i := 26) rfl))) Via.refl e6 F7_roomRelated E_a0 (Or.inr ⟨(hw _ (List.mem_of_getElem? (i := 27) rfl)), rfl, hnm⟩) (hw _ (List.mem_of_getElem? (i := 3) rfl)) (ty := .long) (by decide) rfl rfl (g := (mkF m 35 #[.val (.ref a0), .val (.int p1), .val (.long q2), .second, .val (.long q3), .second, .val (.long q4), .second, .val (.long q5), .second, .val (.long q6), .second, .val (.long q7), .second, .val (.long q8), .second, .val (.long q9), .second, .val (.long q10), .second, .val (.long q11), .second, .val (.long q12), .second, .val (.long q13), .second] [(.long q6), (.ref a0)])) rfl rfl (hb hby d1_35)
  refine own_go st7 ?_
  replace E_a0 := (E_a0.wr W7)
  replace F2_unplaced := (F2_unplaced.other W7 (Or.inr (slot_ne (Or.inr (hw _ (List.mem_of_getElem? (i := 17) rfl))) (Or.inr (hw _ (List.mem_of_getElem? (i := 27) rfl))) (by decide) (t := .int) (t' := .long) (by decide) (by decide))))
  replace F3_conflicts := (F3_conflicts.other W7 (Or.inr (slot_ne (Or.inr (hw _ (List.mem_of_getElem? (i := 19) rfl))) (Or.inr (hw _ (List.mem_of_getElem? (i := 27) rfl))) (by decide) (t := .long) (t' := .long) (by decide) (by decide))))
  replace F4_roomOccupancy := (F4_roomOccupancy.other W7 (Or.inr (slot_ne (Or.inr (hw _ (List.mem_of_getElem? (i := 21) rfl))) (Or.inr (hw _ (List.mem_of_getElem? (i := 27) rfl))) (by decide) (t := .long) (t' := .long) (by decide) (by decide))))
  replace F5_periodUtilisation := (F5_periodUtilisation.other W7 (Or.inr (slot_ne (Or.inr (hw _ (List.mem_of_getElem? (i := 23) rfl))) (Or.inr (hw _ (List.mem_of_getElem? (i := 27) rfl))) (by decide) (t := .long) (t' := .long) (by decide) (by decide))))
  replace F6_periodRelated := (F6_periodRelated.other W7 (Or.inr (slot_ne (Or.inr (hw _ (List.mem_of_getElem? (i := 25) rfl))) (Or.inr (hw _ (List.mem_of_getElem? (i := 27) rfl))) (by decide) (t := .long) (t' := .long) (by decide) (by decide))))
  replace F7_roomRelated := (F7_roomRelated.same W7)
  replace K_a0 := own_K_wr K_a0 W7
  have N7 := Fr.snoc X7 N6 g_a0
  have Z7 : n0 ≤ h7.size := Nat.le_trans Z6 (Keep.of_wr W7).1
  have KK7 := KK6.wr W7 (Or.inl (by simp))
  refine own_go (T' := T7) (f' := (mkF m 41 #[.val (.ref a0), .val (.int p1), .val (.long q2), .second, .val (.long q3), .second, .val (.long q4), .second, .val (.long q5), .second, .val (.long q6), .second, .val (.long q7), .second, .val (.long q8), .second, .val (.long q9), .second, .val (.long q10), .second, .val (.long q11), .second, .val (.long q12), .second, .val (.long q13), .second] [(.long q7), (.ref a0)])) (fun t kt => ?_) ?_
  · show Steps p.tables e below (T7.setTop (mkF m 38 #[.val (.ref a0), .val (.int p1), .val (.long q2), .second, .val (.long q3), .second, .val (.long q4), .second, .val (.long q5), .second, .val (.long q6), .second, .val (.long q7), .second, .val (.long q8), .second, .val (.long q9), .second, .val (.long q10), .second, .val (.long q11), .second, .val (.long q12), .second, .val (.long q13), .second] [])) t
    refine XS.aloadN X7.here hx rfl (hb hby d1_38) rfl rfl ?_
    show Steps p.tables e below (T7.setTop (mkF m 39 #[.val (.ref a0), .val (.int p1), .val (.long q2), .second, .val (.long q3), .second, .val (.long q4), .second, .val (.long q5), .second, .val (.long q6), .second, .val (.long q7), .second, .val (.long q8), .second, .val (.long q9), .second, .val (.long q10), .second, .val (.long q11), .second, .val (.long q12), .second, .val (.long q13), .second] [(.ref a0)])) t
    refine XS.lload X7.here hx rfl (hb hby d1_39) rfl ?_
    show Steps p.tables e below (T7.setTop (mkF m 41 #[.val (.ref a0), .val (.int p1), .val (.long q2), .second, .val (.long q3), .second, .val (.long q4), .second, .val (.long q5), .second, .val (.long q6), .second, .val (.long q7), .second, .val (.long q8), .second, .val (.long q9), .second, .val (.long q10), .second, .val (.long q11), .second, .val (.long q12), .second, .val (.long q13), .second] [(.long q7), (.ref a0)])) t
    exact kt
  obtain ⟨uv8, F8_twoInARow⟩ := fld_laid E_a0 K_a0 (hw _ (List.mem_of_getElem? (i := 3) rfl)) (Or.inr (hw _ (List.mem_of_getElem? (i := 29) rfl)))
  obtain ⟨T8, h8, X8, e8, W8, st8⟩ := putF X7 hx hZ hown (host := "") (Or.inl (hw _ (List.mem_of_getElem? (i := 28) rfl))) Via.refl e7 F8_twoInARow E_a0 (Or.inr ⟨(hw _ (List.mem_of_getElem? (i := 29) rfl)), rfl, hnm⟩) (hw _ (List.mem_of_getElem? (i := 3) rfl)) (ty := .long) (by decide) rfl rfl (g := (mkF m 41 #[.val (.ref a0), .val (.int p1), .val (.long q2), .second, .val (.long q3), .second, .val (.long q4), .second, .val (.long q5), .second, .val (.long q6), .second, .val (.long q7), .second, .val (.long q8), .second, .val (.long q9), .second, .val (.long q10), .second, .val (.long q11), .second, .val (.long q12), .second, .val (.long q13), .second] [(.long q7), (.ref a0)])) rfl rfl (hb hby d1_41)
  refine own_go st8 ?_
  replace E_a0 := (E_a0.wr W8)
  replace F2_unplaced := (F2_unplaced.other W8 (Or.inr (slot_ne (Or.inr (hw _ (List.mem_of_getElem? (i := 17) rfl))) (Or.inr (hw _ (List.mem_of_getElem? (i := 29) rfl))) (by decide) (t := .int) (t' := .long) (by decide) (by decide))))
  replace F3_conflicts := (F3_conflicts.other W8 (Or.inr (slot_ne (Or.inr (hw _ (List.mem_of_getElem? (i := 19) rfl))) (Or.inr (hw _ (List.mem_of_getElem? (i := 29) rfl))) (by decide) (t := .long) (t' := .long) (by decide) (by decide))))
  replace F4_roomOccupancy := (F4_roomOccupancy.other W8 (Or.inr (slot_ne (Or.inr (hw _ (List.mem_of_getElem? (i := 21) rfl))) (Or.inr (hw _ (List.mem_of_getElem? (i := 29) rfl))) (by decide) (t := .long) (t' := .long) (by decide) (by decide))))
  replace F5_periodUtilisation := (F5_periodUtilisation.other W8 (Or.inr (slot_ne (Or.inr (hw _ (List.mem_of_getElem? (i := 23) rfl))) (Or.inr (hw _ (List.mem_of_getElem? (i := 29) rfl))) (by decide) (t := .long) (t' := .long) (by decide) (by decide))))
  replace F6_periodRelated := (F6_periodRelated.other W8 (Or.inr (slot_ne (Or.inr (hw _ (List.mem_of_getElem? (i := 25) rfl))) (Or.inr (hw _ (List.mem_of_getElem? (i := 29) rfl))) (by decide) (t := .long) (t' := .long) (by decide) (by decide))))
  replace F7_roomRelated := (F7_roomRelated.other W8 (Or.inr (slot_ne (Or.inr (hw _ (List.mem_of_getElem? (i := 27) rfl))) (Or.inr (hw _ (List.mem_of_getElem? (i := 29) rfl))) (by decide) (t := .long) (t' := .long) (by decide) (by decide))))
  replace F8_twoInARow := (F8_twoInARow.same W8)
  replace K_a0 := own_K_wr K_a0 W8
  have N8 := Fr.snoc X8 N7 g_a0
  have Z8 : n0 ≤ h8.size := Nat.le_trans Z7 (Keep.of_wr W8).1
  have KK8 := KK7.wr W8 (Or.inl (by simp))
  refine own_go (T' := T8) (f' := (mkF m 47 #[.val (.ref a0), .val (.int p1), .val (.long q2), .second, .val (.long q3), .second, .val (.long q4), .second, .val (.long q5), .second, .val (.long q6), .second, .val (.long q7), .second, .val (.long q8), .second, .val (.long q9), .second, .val (.long q10), .second, .val (.long q11), .second, .val (.long q12), .second, .val (.long q13), .second] [(.long q8), (.ref a0)])) (fun t kt => ?_) ?_
  · show Steps p.tables e below (T8.setTop (mkF m 44 #[.val (.ref a0), .val (.int p1), .val (.long q2), .second, .val (.long q3), .second, .val (.long q4), .second, .val (.long q5), .second, .val (.long q6), .second, .val (.long q7), .second, .val (.long q8), .second, .val (.long q9), .second, .val (.long q10), .second, .val (.long q11), .second, .val (.long q12), .second, .val (.long q13), .second] [])) t
    refine XS.aloadN X8.here hx rfl (hb hby d1_44) rfl rfl ?_
    show Steps p.tables e below (T8.setTop (mkF m 45 #[.val (.ref a0), .val (.int p1), .val (.long q2), .second, .val (.long q3), .second, .val (.long q4), .second, .val (.long q5), .second, .val (.long q6), .second, .val (.long q7), .second, .val (.long q8), .second, .val (.long q9), .second, .val (.long q10), .second, .val (.long q11), .second, .val (.long q12), .second, .val (.long q13), .second] [(.ref a0)])) t
    refine XS.lload X8.here hx rfl (hb hby d1_45) rfl ?_
    show Steps p.tables e below (T8.setTop (mkF m 47 #[.val (.ref a0), .val (.int p1), .val (.long q2), .second, .val (.long q3), .second, .val (.long q4), .second, .val (.long q5), .second, .val (.long q6), .second, .val (.long q7), .second, .val (.long q8), .second, .val (.long q9), .second, .val (.long q10), .second, .val (.long q11), .second, .val (.long q12), .second, .val (.long q13), .second] [(.long q8), (.ref a0)])) t
    exact kt
  obtain ⟨uv9, F9_twoInADay⟩ := fld_laid E_a0 K_a0 (hw _ (List.mem_of_getElem? (i := 3) rfl)) (Or.inr (hw _ (List.mem_of_getElem? (i := 31) rfl)))
  obtain ⟨T9, h9, X9, e9, W9, st9⟩ := putF X8 hx hZ hown (host := "") (Or.inl (hw _ (List.mem_of_getElem? (i := 30) rfl))) Via.refl e8 F9_twoInADay E_a0 (Or.inr ⟨(hw _ (List.mem_of_getElem? (i := 31) rfl)), rfl, hnm⟩) (hw _ (List.mem_of_getElem? (i := 3) rfl)) (ty := .long) (by decide) rfl rfl (g := (mkF m 47 #[.val (.ref a0), .val (.int p1), .val (.long q2), .second, .val (.long q3), .second, .val (.long q4), .second, .val (.long q5), .second, .val (.long q6), .second, .val (.long q7), .second, .val (.long q8), .second, .val (.long q9), .second, .val (.long q10), .second, .val (.long q11), .second, .val (.long q12), .second, .val (.long q13), .second] [(.long q8), (.ref a0)])) rfl rfl (hb hby d1_47)
  refine own_go st9 ?_
  replace E_a0 := (E_a0.wr W9)
  replace F2_unplaced := (F2_unplaced.other W9 (Or.inr (slot_ne (Or.inr (hw _ (List.mem_of_getElem? (i := 17) rfl))) (Or.inr (hw _ (List.mem_of_getElem? (i := 31) rfl))) (by decide) (t := .int) (t' := .long) (by decide) (by decide))))
  replace F3_conflicts := (F3_conflicts.other W9 (Or.inr (slot_ne (Or.inr (hw _ (List.mem_of_getElem? (i := 19) rfl))) (Or.inr (hw _ (List.mem_of_getElem? (i := 31) rfl))) (by decide) (t := .long) (t' := .long) (by decide) (by decide))))
  replace F4_roomOccupancy := (F4_roomOccupancy.other W9 (Or.inr (slot_ne (Or.inr (hw _ (List.mem_of_getElem? (i := 21) rfl))) (Or.inr (hw _ (List.mem_of_getElem? (i := 31) rfl))) (by decide) (t := .long) (t' := .long) (by decide) (by decide))))
  replace F5_periodUtilisation := (F5_periodUtilisation.other W9 (Or.inr (slot_ne (Or.inr (hw _ (List.mem_of_getElem? (i := 23) rfl))) (Or.inr (hw _ (List.mem_of_getElem? (i := 31) rfl))) (by decide) (t := .long) (t' := .long) (by decide) (by decide))))
  replace F6_periodRelated := (F6_periodRelated.other W9 (Or.inr (slot_ne (Or.inr (hw _ (List.mem_of_getElem? (i := 25) rfl))) (Or.inr (hw _ (List.mem_of_getElem? (i := 31) rfl))) (by decide) (t := .long) (t' := .long) (by decide) (by decide))))
  replace F7_roomRelated := (F7_roomRelated.other W9 (Or.inr (slot_ne (Or.inr (hw _ (List.mem_of_getElem? (i := 27) rfl))) (Or.inr (hw _ (List.mem_of_getElem? (i := 31) rfl))) (by decide) (t := .long) (t' := .long) (by decide) (by decide))))
  replace F8_twoInARow := (F8_twoInARow.other W9 (Or.inr (slot_ne (Or.inr (hw _ (List.mem_of_getElem? (i := 29) rfl))) (Or.inr (hw _ (List.mem_of_getElem? (i := 31) rfl))) (by decide) (t := .long) (t' := .long) (by decide) (by decide))))
  replace F9_twoInADay := (F9_twoInADay.same W9)
  replace K_a0 := own_K_wr K_a0 W9
  have N9 := Fr.snoc X9 N8 g_a0
  have Z9 : n0 ≤ h9.size := Nat.le_trans Z8 (Keep.of_wr W9).1
  have KK9 := KK8.wr W9 (Or.inl (by simp))
  refine own_go (T' := T9) (f' := (mkF m 53 #[.val (.ref a0), .val (.int p1), .val (.long q2), .second, .val (.long q3), .second, .val (.long q4), .second, .val (.long q5), .second, .val (.long q6), .second, .val (.long q7), .second, .val (.long q8), .second, .val (.long q9), .second, .val (.long q10), .second, .val (.long q11), .second, .val (.long q12), .second, .val (.long q13), .second] [(.long q9), (.ref a0)])) (fun t kt => ?_) ?_
  · show Steps p.tables e below (T9.setTop (mkF m 50 #[.val (.ref a0), .val (.int p1), .val (.long q2), .second, .val (.long q3), .second, .val (.long q4), .second, .val (.long q5), .second, .val (.long q6), .second, .val (.long q7), .second, .val (.long q8), .second, .val (.long q9), .second, .val (.long q10), .second, .val (.long q11), .second, .val (.long q12), .second, .val (.long q13), .second] [])) t
    refine XS.aloadN X9.here hx rfl (hb hby d1_50) rfl rfl ?_
    show Steps p.tables e below (T9.setTop (mkF m 51 #[.val (.ref a0), .val (.int p1), .val (.long q2), .second, .val (.long q3), .second, .val (.long q4), .second, .val (.long q5), .second, .val (.long q6), .second, .val (.long q7), .second, .val (.long q8), .second, .val (.long q9), .second, .val (.long q10), .second, .val (.long q11), .second, .val (.long q12), .second, .val (.long q13), .second] [(.ref a0)])) t
    refine XS.lload X9.here hx rfl (hb hby d1_51) rfl ?_
    show Steps p.tables e below (T9.setTop (mkF m 53 #[.val (.ref a0), .val (.int p1), .val (.long q2), .second, .val (.long q3), .second, .val (.long q4), .second, .val (.long q5), .second, .val (.long q6), .second, .val (.long q7), .second, .val (.long q8), .second, .val (.long q9), .second, .val (.long q10), .second, .val (.long q11), .second, .val (.long q12), .second, .val (.long q13), .second] [(.long q9), (.ref a0)])) t
    exact kt
  obtain ⟨uv10, F10_periodSpread⟩ := fld_laid E_a0 K_a0 (hw _ (List.mem_of_getElem? (i := 3) rfl)) (Or.inr (hw _ (List.mem_of_getElem? (i := 33) rfl)))
  obtain ⟨T10, h10, X10, e10, W10, st10⟩ := putF X9 hx hZ hown (host := "") (Or.inl (hw _ (List.mem_of_getElem? (i := 32) rfl))) Via.refl e9 F10_periodSpread E_a0 (Or.inr ⟨(hw _ (List.mem_of_getElem? (i := 33) rfl)), rfl, hnm⟩) (hw _ (List.mem_of_getElem? (i := 3) rfl)) (ty := .long) (by decide) rfl rfl (g := (mkF m 53 #[.val (.ref a0), .val (.int p1), .val (.long q2), .second, .val (.long q3), .second, .val (.long q4), .second, .val (.long q5), .second, .val (.long q6), .second, .val (.long q7), .second, .val (.long q8), .second, .val (.long q9), .second, .val (.long q10), .second, .val (.long q11), .second, .val (.long q12), .second, .val (.long q13), .second] [(.long q9), (.ref a0)])) rfl rfl (hb hby d1_53)
  refine own_go st10 ?_
  replace E_a0 := (E_a0.wr W10)
  replace F2_unplaced := (F2_unplaced.other W10 (Or.inr (slot_ne (Or.inr (hw _ (List.mem_of_getElem? (i := 17) rfl))) (Or.inr (hw _ (List.mem_of_getElem? (i := 33) rfl))) (by decide) (t := .int) (t' := .long) (by decide) (by decide))))
  replace F3_conflicts := (F3_conflicts.other W10 (Or.inr (slot_ne (Or.inr (hw _ (List.mem_of_getElem? (i := 19) rfl))) (Or.inr (hw _ (List.mem_of_getElem? (i := 33) rfl))) (by decide) (t := .long) (t' := .long) (by decide) (by decide))))
  replace F4_roomOccupancy := (F4_roomOccupancy.other W10 (Or.inr (slot_ne (Or.inr (hw _ (List.mem_of_getElem? (i := 21) rfl))) (Or.inr (hw _ (List.mem_of_getElem? (i := 33) rfl))) (by decide) (t := .long) (t' := .long) (by decide) (by decide))))
  replace F5_periodUtilisation := (F5_periodUtilisation.other W10 (Or.inr (slot_ne (Or.inr (hw _ (List.mem_of_getElem? (i := 23) rfl))) (Or.inr (hw _ (List.mem_of_getElem? (i := 33) rfl))) (by decide) (t := .long) (t' := .long) (by decide) (by decide))))
  replace F6_periodRelated := (F6_periodRelated.other W10 (Or.inr (slot_ne (Or.inr (hw _ (List.mem_of_getElem? (i := 25) rfl))) (Or.inr (hw _ (List.mem_of_getElem? (i := 33) rfl))) (by decide) (t := .long) (t' := .long) (by decide) (by decide))))
  replace F7_roomRelated := (F7_roomRelated.other W10 (Or.inr (slot_ne (Or.inr (hw _ (List.mem_of_getElem? (i := 27) rfl))) (Or.inr (hw _ (List.mem_of_getElem? (i := 33) rfl))) (by decide) (t := .long) (t' := .long) (by decide) (by decide))))
  replace F8_twoInARow := (F8_twoInARow.other W10 (Or.inr (slot_ne (Or.inr (hw _ (List.mem_of_getElem? (i := 29) rfl))) (Or.inr (hw _ (List.mem_of_getElem? (i := 33) rfl))) (by decide) (t := .long) (t' := .long) (by decide) (by decide))))
  replace F9_twoInADay := (F9_twoInADay.other W10 (Or.inr (slot_ne (Or.inr (hw _ (List.mem_of_getElem? (i := 31) rfl))) (Or.inr (hw _ (List.mem_of_getElem? (i := 33) rfl))) (by decide) (t := .long) (t' := .long) (by decide) (by decide))))
  replace F10_periodSpread := (F10_periodSpread.same W10)
  replace K_a0 := own_K_wr K_a0 W10
  have N10 := Fr.snoc X10 N9 g_a0
  have Z10 : n0 ≤ h10.size := Nat.le_trans Z9 (Keep.of_wr W10).1
  have KK10 := KK9.wr W10 (Or.inl (by simp))
  refine own_go (T' := T10) (f' := (mkF m 59 #[.val (.ref a0), .val (.int p1), .val (.long q2), .second, .val (.long q3), .second, .val (.long q4), .second, .val (.long q5), .second, .val (.long q6), .second, .val (.long q7), .second, .val (.long q8), .second, .val (.long q9), .second, .val (.long q10), .second, .val (.long q11), .second, .val (.long q12), .second, .val (.long q13), .second] [(.long q10), (.ref a0)])) (fun t kt => ?_) ?_
  · show Steps p.tables e below (T10.setTop (mkF m 56 #[.val (.ref a0), .val (.int p1), .val (.long q2), .second, .val (.long q3), .second, .val (.long q4), .second, .val (.long q5), .second, .val (.long q6), .second, .val (.long q7), .second, .val (.long q8), .second, .val (.long q9), .second, .val (.long q10), .second, .val (.long q11), .second, .val (.long q12), .second, .val (.long q13), .second] [])) t
    refine XS.aloadN X10.here hx rfl (hb hby d1_56) rfl rfl ?_
    show Steps p.tables e below (T10.setTop (mkF m 57 #[.val (.ref a0), .val (.int p1), .val (.long q2), .second, .val (.long q3), .second, .val (.long q4), .second, .val (.long q5), .second, .val (.long q6), .second, .val (.long q7), .second, .val (.long q8), .second, .val (.long q9), .second, .val (.long q10), .second, .val (.long q11), .second, .val (.long q12), .second, .val (.long q13), .second] [(.ref a0)])) t
    refine XS.lload X10.here hx rfl (hb hby d1_57) rfl ?_
    show Steps p.tables e below (T10.setTop (mkF m 59 #[.val (.ref a0), .val (.int p1), .val (.long q2), .second, .val (.long q3), .second, .val (.long q4), .second, .val (.long q5), .second, .val (.long q6), .second, .val (.long q7), .second, .val (.long q8), .second, .val (.long q9), .second, .val (.long q10), .second, .val (.long q11), .second, .val (.long q12), .second, .val (.long q13), .second] [(.long q10), (.ref a0)])) t
    exact kt
  obtain ⟨uv11, F11_mixedDurations⟩ := fld_laid E_a0 K_a0 (hw _ (List.mem_of_getElem? (i := 3) rfl)) (Or.inr (hw _ (List.mem_of_getElem? (i := 35) rfl)))
  obtain ⟨T11, h11, X11, e11, W11, st11⟩ := putF X10 hx hZ hown (host := "") (Or.inl (hw _ (List.mem_of_getElem? (i := 34) rfl))) Via.refl e10 F11_mixedDurations E_a0 (Or.inr ⟨(hw _ (List.mem_of_getElem? (i := 35) rfl)), rfl, hnm⟩) (hw _ (List.mem_of_getElem? (i := 3) rfl)) (ty := .long) (by decide) rfl rfl (g := (mkF m 59 #[.val (.ref a0), .val (.int p1), .val (.long q2), .second, .val (.long q3), .second, .val (.long q4), .second, .val (.long q5), .second, .val (.long q6), .second, .val (.long q7), .second, .val (.long q8), .second, .val (.long q9), .second, .val (.long q10), .second, .val (.long q11), .second, .val (.long q12), .second, .val (.long q13), .second] [(.long q10), (.ref a0)])) rfl rfl (hb hby d1_59)
  refine own_go st11 ?_
  replace E_a0 := (E_a0.wr W11)
  replace F2_unplaced := (F2_unplaced.other W11 (Or.inr (slot_ne (Or.inr (hw _ (List.mem_of_getElem? (i := 17) rfl))) (Or.inr (hw _ (List.mem_of_getElem? (i := 35) rfl))) (by decide) (t := .int) (t' := .long) (by decide) (by decide))))
  replace F3_conflicts := (F3_conflicts.other W11 (Or.inr (slot_ne (Or.inr (hw _ (List.mem_of_getElem? (i := 19) rfl))) (Or.inr (hw _ (List.mem_of_getElem? (i := 35) rfl))) (by decide) (t := .long) (t' := .long) (by decide) (by decide))))
  replace F4_roomOccupancy := (F4_roomOccupancy.other W11 (Or.inr (slot_ne (Or.inr (hw _ (List.mem_of_getElem? (i := 21) rfl))) (Or.inr (hw _ (List.mem_of_getElem? (i := 35) rfl))) (by decide) (t := .long) (t' := .long) (by decide) (by decide))))
  replace F5_periodUtilisation := (F5_periodUtilisation.other W11 (Or.inr (slot_ne (Or.inr (hw _ (List.mem_of_getElem? (i := 23) rfl))) (Or.inr (hw _ (List.mem_of_getElem? (i := 35) rfl))) (by decide) (t := .long) (t' := .long) (by decide) (by decide))))
  replace F6_periodRelated := (F6_periodRelated.other W11 (Or.inr (slot_ne (Or.inr (hw _ (List.mem_of_getElem? (i := 25) rfl))) (Or.inr (hw _ (List.mem_of_getElem? (i := 35) rfl))) (by decide) (t := .long) (t' := .long) (by decide) (by decide))))
  replace F7_roomRelated := (F7_roomRelated.other W11 (Or.inr (slot_ne (Or.inr (hw _ (List.mem_of_getElem? (i := 27) rfl))) (Or.inr (hw _ (List.mem_of_getElem? (i := 35) rfl))) (by decide) (t := .long) (t' := .long) (by decide) (by decide))))
  replace F8_twoInARow := (F8_twoInARow.other W11 (Or.inr (slot_ne (Or.inr (hw _ (List.mem_of_getElem? (i := 29) rfl))) (Or.inr (hw _ (List.mem_of_getElem? (i := 35) rfl))) (by decide) (t := .long) (t' := .long) (by decide) (by decide))))
  replace F9_twoInADay := (F9_twoInADay.other W11 (Or.inr (slot_ne (Or.inr (hw _ (List.mem_of_getElem? (i := 31) rfl))) (Or.inr (hw _ (List.mem_of_getElem? (i := 35) rfl))) (by decide) (t := .long) (t' := .long) (by decide) (by decide))))
  replace F10_periodSpread := (F10_periodSpread.other W11 (Or.inr (slot_ne (Or.inr (hw _ (List.mem_of_getElem? (i := 33) rfl))) (Or.inr (hw _ (List.mem_of_getElem? (i := 35) rfl))) (by decide) (t := .long) (t' := .long) (by decide) (by decide))))
  replace F11_mixedDurations := (F11_mixedDurations.same W11)
  replace K_a0 := own_K_wr K_a0 W11
  have N11 := Fr.snoc X11 N10 g_a0
  have Z11 : n0 ≤ h11.size := Nat.le_trans Z10 (Keep.of_wr W11).1
  have KK11 := KK10.wr W11 (Or.inl (by simp))
  refine own_go (T' := T11) (f' := (mkF m 65 #[.val (.ref a0), .val (.int p1), .val (.long q2), .second, .val (.long q3), .second, .val (.long q4), .second, .val (.long q5), .second, .val (.long q6), .second, .val (.long q7), .second, .val (.long q8), .second, .val (.long q9), .second, .val (.long q10), .second, .val (.long q11), .second, .val (.long q12), .second, .val (.long q13), .second] [(.long q11), (.ref a0)])) (fun t kt => ?_) ?_
  · show Steps p.tables e below (T11.setTop (mkF m 62 #[.val (.ref a0), .val (.int p1), .val (.long q2), .second, .val (.long q3), .second, .val (.long q4), .second, .val (.long q5), .second, .val (.long q6), .second, .val (.long q7), .second, .val (.long q8), .second, .val (.long q9), .second, .val (.long q10), .second, .val (.long q11), .second, .val (.long q12), .second, .val (.long q13), .second] [])) t
    refine XS.aloadN X11.here hx rfl (hb hby d1_62) rfl rfl ?_
    show Steps p.tables e below (T11.setTop (mkF m 63 #[.val (.ref a0), .val (.int p1), .val (.long q2), .second, .val (.long q3), .second, .val (.long q4), .second, .val (.long q5), .second, .val (.long q6), .second, .val (.long q7), .second, .val (.long q8), .second, .val (.long q9), .second, .val (.long q10), .second, .val (.long q11), .second, .val (.long q12), .second, .val (.long q13), .second] [(.ref a0)])) t
    refine XS.lload X11.here hx rfl (hb hby d1_63) rfl ?_
    show Steps p.tables e below (T11.setTop (mkF m 65 #[.val (.ref a0), .val (.int p1), .val (.long q2), .second, .val (.long q3), .second, .val (.long q4), .second, .val (.long q5), .second, .val (.long q6), .second, .val (.long q7), .second, .val (.long q8), .second, .val (.long q9), .second, .val (.long q10), .second, .val (.long q11), .second, .val (.long q12), .second, .val (.long q13), .second] [(.long q11), (.ref a0)])) t
    exact kt
  obtain ⟨uv12, F12_frontLoad⟩ := fld_laid E_a0 K_a0 (hw _ (List.mem_of_getElem? (i := 3) rfl)) (Or.inr (hw _ (List.mem_of_getElem? (i := 37) rfl)))
  obtain ⟨T12, h12, X12, e12, W12, st12⟩ := putF X11 hx hZ hown (host := "") (Or.inl (hw _ (List.mem_of_getElem? (i := 36) rfl))) Via.refl e11 F12_frontLoad E_a0 (Or.inr ⟨(hw _ (List.mem_of_getElem? (i := 37) rfl)), rfl, hnm⟩) (hw _ (List.mem_of_getElem? (i := 3) rfl)) (ty := .long) (by decide) rfl rfl (g := (mkF m 65 #[.val (.ref a0), .val (.int p1), .val (.long q2), .second, .val (.long q3), .second, .val (.long q4), .second, .val (.long q5), .second, .val (.long q6), .second, .val (.long q7), .second, .val (.long q8), .second, .val (.long q9), .second, .val (.long q10), .second, .val (.long q11), .second, .val (.long q12), .second, .val (.long q13), .second] [(.long q11), (.ref a0)])) rfl rfl (hb hby d1_65)
  refine own_go st12 ?_
  replace E_a0 := (E_a0.wr W12)
  replace F2_unplaced := (F2_unplaced.other W12 (Or.inr (slot_ne (Or.inr (hw _ (List.mem_of_getElem? (i := 17) rfl))) (Or.inr (hw _ (List.mem_of_getElem? (i := 37) rfl))) (by decide) (t := .int) (t' := .long) (by decide) (by decide))))
  replace F3_conflicts := (F3_conflicts.other W12 (Or.inr (slot_ne (Or.inr (hw _ (List.mem_of_getElem? (i := 19) rfl))) (Or.inr (hw _ (List.mem_of_getElem? (i := 37) rfl))) (by decide) (t := .long) (t' := .long) (by decide) (by decide))))
  replace F4_roomOccupancy := (F4_roomOccupancy.other W12 (Or.inr (slot_ne (Or.inr (hw _ (List.mem_of_getElem? (i := 21) rfl))) (Or.inr (hw _ (List.mem_of_getElem? (i := 37) rfl))) (by decide) (t := .long) (t' := .long) (by decide) (by decide))))
  replace F5_periodUtilisation := (F5_periodUtilisation.other W12 (Or.inr (slot_ne (Or.inr (hw _ (List.mem_of_getElem? (i := 23) rfl))) (Or.inr (hw _ (List.mem_of_getElem? (i := 37) rfl))) (by decide) (t := .long) (t' := .long) (by decide) (by decide))))
  replace F6_periodRelated := (F6_periodRelated.other W12 (Or.inr (slot_ne (Or.inr (hw _ (List.mem_of_getElem? (i := 25) rfl))) (Or.inr (hw _ (List.mem_of_getElem? (i := 37) rfl))) (by decide) (t := .long) (t' := .long) (by decide) (by decide))))
  replace F7_roomRelated := (F7_roomRelated.other W12 (Or.inr (slot_ne (Or.inr (hw _ (List.mem_of_getElem? (i := 27) rfl))) (Or.inr (hw _ (List.mem_of_getElem? (i := 37) rfl))) (by decide) (t := .long) (t' := .long) (by decide) (by decide))))
  replace F8_twoInARow := (F8_twoInARow.other W12 (Or.inr (slot_ne (Or.inr (hw _ (List.mem_of_getElem? (i := 29) rfl))) (Or.inr (hw _ (List.mem_of_getElem? (i := 37) rfl))) (by decide) (t := .long) (t' := .long) (by decide) (by decide))))
  replace F9_twoInADay := (F9_twoInADay.other W12 (Or.inr (slot_ne (Or.inr (hw _ (List.mem_of_getElem? (i := 31) rfl))) (Or.inr (hw _ (List.mem_of_getElem? (i := 37) rfl))) (by decide) (t := .long) (t' := .long) (by decide) (by decide))))
  replace F10_periodSpread := (F10_periodSpread.other W12 (Or.inr (slot_ne (Or.inr (hw _ (List.mem_of_getElem? (i := 33) rfl))) (Or.inr (hw _ (List.mem_of_getElem? (i := 37) rfl))) (by decide) (t := .long) (t' := .long) (by decide) (by decide))))
  replace F11_mixedDurations := (F11_mixedDurations.other W12 (Or.inr (slot_ne (Or.inr (hw _ (List.mem_of_getElem? (i := 35) rfl))) (Or.inr (hw _ (List.mem_of_getElem? (i := 37) rfl))) (by decide) (t := .long) (t' := .long) (by decide) (by decide))))
  replace F12_frontLoad := (F12_frontLoad.same W12)
  replace K_a0 := own_K_wr K_a0 W12
  have N12 := Fr.snoc X12 N11 g_a0
  have Z12 : n0 ≤ h12.size := Nat.le_trans Z11 (Keep.of_wr W12).1
  have KK12 := KK11.wr W12 (Or.inl (by simp))
  refine own_go (T' := T12) (f' := (mkF m 71 #[.val (.ref a0), .val (.int p1), .val (.long q2), .second, .val (.long q3), .second, .val (.long q4), .second, .val (.long q5), .second, .val (.long q6), .second, .val (.long q7), .second, .val (.long q8), .second, .val (.long q9), .second, .val (.long q10), .second, .val (.long q11), .second, .val (.long q12), .second, .val (.long q13), .second] [(.long q12), (.ref a0)])) (fun t kt => ?_) ?_
  · show Steps p.tables e below (T12.setTop (mkF m 68 #[.val (.ref a0), .val (.int p1), .val (.long q2), .second, .val (.long q3), .second, .val (.long q4), .second, .val (.long q5), .second, .val (.long q6), .second, .val (.long q7), .second, .val (.long q8), .second, .val (.long q9), .second, .val (.long q10), .second, .val (.long q11), .second, .val (.long q12), .second, .val (.long q13), .second] [])) t
    refine XS.aloadN X12.here hx rfl (hb hby d1_68) rfl rfl ?_
    show Steps p.tables e below (T12.setTop (mkF m 69 #[.val (.ref a0), .val (.int p1), .val (.long q2), .second, .val (.long q3), .second, .val (.long q4), .second, .val (.long q5), .second, .val (.long q6), .second, .val (.long q7), .second, .val (.long q8), .second, .val (.long q9), .second, .val (.long q10), .second, .val (.long q11), .second, .val (.long q12), .second, .val (.long q13), .second] [(.ref a0)])) t
    refine XS.lload X12.here hx rfl (hb hby d1_69) rfl ?_
    show Steps p.tables e below (T12.setTop (mkF m 71 #[.val (.ref a0), .val (.int p1), .val (.long q2), .second, .val (.long q3), .second, .val (.long q4), .second, .val (.long q5), .second, .val (.long q6), .second, .val (.long q7), .second, .val (.long q8), .second, .val (.long q9), .second, .val (.long q10), .second, .val (.long q11), .second, .val (.long q12), .second, .val (.long q13), .second] [(.long q12), (.ref a0)])) t
    exact kt
  obtain ⟨uv13, F13_roomPenalty⟩ := fld_laid E_a0 K_a0 (hw _ (List.mem_of_getElem? (i := 3) rfl)) (Or.inr (hw _ (List.mem_of_getElem? (i := 39) rfl)))
  obtain ⟨T13, h13, X13, e13, W13, st13⟩ := putF X12 hx hZ hown (host := "") (Or.inl (hw _ (List.mem_of_getElem? (i := 38) rfl))) Via.refl e12 F13_roomPenalty E_a0 (Or.inr ⟨(hw _ (List.mem_of_getElem? (i := 39) rfl)), rfl, hnm⟩) (hw _ (List.mem_of_getElem? (i := 3) rfl)) (ty := .long) (by decide) rfl rfl (g := (mkF m 71 #[.val (.ref a0), .val (.int p1), .val (.long q2), .second, .val (.long q3), .second, .val (.long q4), .second, .val (.long q5), .second, .val (.long q6), .second, .val (.long q7), .second, .val (.long q8), .second, .val (.long q9), .second, .val (.long q10), .second, .val (.long q11), .second, .val (.long q12), .second, .val (.long q13), .second] [(.long q12), (.ref a0)])) rfl rfl (hb hby d1_71)
  refine own_go st13 ?_
  replace E_a0 := (E_a0.wr W13)
  replace F2_unplaced := (F2_unplaced.other W13 (Or.inr (slot_ne (Or.inr (hw _ (List.mem_of_getElem? (i := 17) rfl))) (Or.inr (hw _ (List.mem_of_getElem? (i := 39) rfl))) (by decide) (t := .int) (t' := .long) (by decide) (by decide))))
  replace F3_conflicts := (F3_conflicts.other W13 (Or.inr (slot_ne (Or.inr (hw _ (List.mem_of_getElem? (i := 19) rfl))) (Or.inr (hw _ (List.mem_of_getElem? (i := 39) rfl))) (by decide) (t := .long) (t' := .long) (by decide) (by decide))))
  replace F4_roomOccupancy := (F4_roomOccupancy.other W13 (Or.inr (slot_ne (Or.inr (hw _ (List.mem_of_getElem? (i := 21) rfl))) (Or.inr (hw _ (List.mem_of_getElem? (i := 39) rfl))) (by decide) (t := .long) (t' := .long) (by decide) (by decide))))
  replace F5_periodUtilisation := (F5_periodUtilisation.other W13 (Or.inr (slot_ne (Or.inr (hw _ (List.mem_of_getElem? (i := 23) rfl))) (Or.inr (hw _ (List.mem_of_getElem? (i := 39) rfl))) (by decide) (t := .long) (t' := .long) (by decide) (by decide))))
  replace F6_periodRelated := (F6_periodRelated.other W13 (Or.inr (slot_ne (Or.inr (hw _ (List.mem_of_getElem? (i := 25) rfl))) (Or.inr (hw _ (List.mem_of_getElem? (i := 39) rfl))) (by decide) (t := .long) (t' := .long) (by decide) (by decide))))
  replace F7_roomRelated := (F7_roomRelated.other W13 (Or.inr (slot_ne (Or.inr (hw _ (List.mem_of_getElem? (i := 27) rfl))) (Or.inr (hw _ (List.mem_of_getElem? (i := 39) rfl))) (by decide) (t := .long) (t' := .long) (by decide) (by decide))))
  replace F8_twoInARow := (F8_twoInARow.other W13 (Or.inr (slot_ne (Or.inr (hw _ (List.mem_of_getElem? (i := 29) rfl))) (Or.inr (hw _ (List.mem_of_getElem? (i := 39) rfl))) (by decide) (t := .long) (t' := .long) (by decide) (by decide))))
  replace F9_twoInADay := (F9_twoInADay.other W13 (Or.inr (slot_ne (Or.inr (hw _ (List.mem_of_getElem? (i := 31) rfl))) (Or.inr (hw _ (List.mem_of_getElem? (i := 39) rfl))) (by decide) (t := .long) (t' := .long) (by decide) (by decide))))
  replace F10_periodSpread := (F10_periodSpread.other W13 (Or.inr (slot_ne (Or.inr (hw _ (List.mem_of_getElem? (i := 33) rfl))) (Or.inr (hw _ (List.mem_of_getElem? (i := 39) rfl))) (by decide) (t := .long) (t' := .long) (by decide) (by decide))))
  replace F11_mixedDurations := (F11_mixedDurations.other W13 (Or.inr (slot_ne (Or.inr (hw _ (List.mem_of_getElem? (i := 35) rfl))) (Or.inr (hw _ (List.mem_of_getElem? (i := 39) rfl))) (by decide) (t := .long) (t' := .long) (by decide) (by decide))))
  replace F12_frontLoad := (F12_frontLoad.other W13 (Or.inr (slot_ne (Or.inr (hw _ (List.mem_of_getElem? (i := 37) rfl))) (Or.inr (hw _ (List.mem_of_getElem? (i := 39) rfl))) (by decide) (t := .long) (t' := .long) (by decide) (by decide))))
  replace F13_roomPenalty := (F13_roomPenalty.same W13)
  replace K_a0 := own_K_wr K_a0 W13
  have N13 := Fr.snoc X13 N12 g_a0
  have Z13 : n0 ≤ h13.size := Nat.le_trans Z12 (Keep.of_wr W13).1
  have KK13 := KK12.wr W13 (Or.inl (by simp))
  refine own_go (T' := T13) (f' := (mkF m 77 #[.val (.ref a0), .val (.int p1), .val (.long q2), .second, .val (.long q3), .second, .val (.long q4), .second, .val (.long q5), .second, .val (.long q6), .second, .val (.long q7), .second, .val (.long q8), .second, .val (.long q9), .second, .val (.long q10), .second, .val (.long q11), .second, .val (.long q12), .second, .val (.long q13), .second] [(.long q13), (.ref a0)])) (fun t kt => ?_) ?_
  · show Steps p.tables e below (T13.setTop (mkF m 74 #[.val (.ref a0), .val (.int p1), .val (.long q2), .second, .val (.long q3), .second, .val (.long q4), .second, .val (.long q5), .second, .val (.long q6), .second, .val (.long q7), .second, .val (.long q8), .second, .val (.long q9), .second, .val (.long q10), .second, .val (.long q11), .second, .val (.long q12), .second, .val (.long q13), .second] [])) t
    refine XS.aloadN X13.here hx rfl (hb hby d1_74) rfl rfl ?_
    show Steps p.tables e below (T13.setTop (mkF m 75 #[.val (.ref a0), .val (.int p1), .val (.long q2), .second, .val (.long q3), .second, .val (.long q4), .second, .val (.long q5), .second, .val (.long q6), .second, .val (.long q7), .second, .val (.long q8), .second, .val (.long q9), .second, .val (.long q10), .second, .val (.long q11), .second, .val (.long q12), .second, .val (.long q13), .second] [(.ref a0)])) t
    refine XS.lload X13.here hx rfl (hb hby d1_75) rfl ?_
    show Steps p.tables e below (T13.setTop (mkF m 77 #[.val (.ref a0), .val (.int p1), .val (.long q2), .second, .val (.long q3), .second, .val (.long q4), .second, .val (.long q5), .second, .val (.long q6), .second, .val (.long q7), .second, .val (.long q8), .second, .val (.long q9), .second, .val (.long q10), .second, .val (.long q11), .second, .val (.long q12), .second, .val (.long q13), .second] [(.long q13), (.ref a0)])) t
    exact kt
  obtain ⟨uv14, F14_periodPenalty⟩ := fld_laid E_a0 K_a0 (hw _ (List.mem_of_getElem? (i := 3) rfl)) (Or.inr (hw _ (List.mem_of_getElem? (i := 41) rfl)))
  obtain ⟨T14, h14, X14, e14, W14, st14⟩ := putF X13 hx hZ hown (host := "") (Or.inl (hw _ (List.mem_of_getElem? (i := 40) rfl))) Via.refl e13 F14_periodPenalty E_a0 (Or.inr ⟨(hw _ (List.mem_of_getElem? (i := 41) rfl)), rfl, hnm⟩) (hw _ (List.mem_of_getElem? (i := 3) rfl)) (ty := .long) (by decide) rfl rfl (g := (mkF m 77 #[.val (.ref a0), .val (.int p1), .val (.long q2), .second, .val (.long q3), .second, .val (.long q4), .second, .val (.long q5), .second, .val (.long q6), .second, .val (.long q7), .second, .val (.long q8), .second, .val (.long q9), .second, .val (.long q10), .second, .val (.long q11), .second, .val (.long q12), .second, .val (.long q13), .second] [(.long q13), (.ref a0)])) rfl rfl (hb hby d1_77)
  refine own_go st14 ?_
  replace E_a0 := (E_a0.wr W14)
  replace F2_unplaced := (F2_unplaced.other W14 (Or.inr (slot_ne (Or.inr (hw _ (List.mem_of_getElem? (i := 17) rfl))) (Or.inr (hw _ (List.mem_of_getElem? (i := 41) rfl))) (by decide) (t := .int) (t' := .long) (by decide) (by decide))))
  replace F3_conflicts := (F3_conflicts.other W14 (Or.inr (slot_ne (Or.inr (hw _ (List.mem_of_getElem? (i := 19) rfl))) (Or.inr (hw _ (List.mem_of_getElem? (i := 41) rfl))) (by decide) (t := .long) (t' := .long) (by decide) (by decide))))
  replace F4_roomOccupancy := (F4_roomOccupancy.other W14 (Or.inr (slot_ne (Or.inr (hw _ (List.mem_of_getElem? (i := 21) rfl))) (Or.inr (hw _ (List.mem_of_getElem? (i := 41) rfl))) (by decide) (t := .long) (t' := .long) (by decide) (by decide))))
  replace F5_periodUtilisation := (F5_periodUtilisation.other W14 (Or.inr (slot_ne (Or.inr (hw _ (List.mem_of_getElem? (i := 23) rfl))) (Or.inr (hw _ (List.mem_of_getElem? (i := 41) rfl))) (by decide) (t := .long) (t' := .long) (by decide) (by decide))))
  replace F6_periodRelated := (F6_periodRelated.other W14 (Or.inr (slot_ne (Or.inr (hw _ (List.mem_of_getElem? (i := 25) rfl))) (Or.inr (hw _ (List.mem_of_getElem? (i := 41) rfl))) (by decide) (t := .long) (t' := .long) (by decide) (by decide))))
  replace F7_roomRelated := (F7_roomRelated.other W14 (Or.inr (slot_ne (Or.inr (hw _ (List.mem_of_getElem? (i := 27) rfl))) (Or.inr (hw _ (List.mem_of_getElem? (i := 41) rfl))) (by decide) (t := .long) (t' := .long) (by decide) (by decide))))
  replace F8_twoInARow := (F8_twoInARow.other W14 (Or.inr (slot_ne (Or.inr (hw _ (List.mem_of_getElem? (i := 29) rfl))) (Or.inr (hw _ (List.mem_of_getElem? (i := 41) rfl))) (by decide) (t := .long) (t' := .long) (by decide) (by decide))))
  replace F9_twoInADay := (F9_twoInADay.other W14 (Or.inr (slot_ne (Or.inr (hw _ (List.mem_of_getElem? (i := 31) rfl))) (Or.inr (hw _ (List.mem_of_getElem? (i := 41) rfl))) (by decide) (t := .long) (t' := .long) (by decide) (by decide))))
  replace F10_periodSpread := (F10_periodSpread.other W14 (Or.inr (slot_ne (Or.inr (hw _ (List.mem_of_getElem? (i := 33) rfl))) (Or.inr (hw _ (List.mem_of_getElem? (i := 41) rfl))) (by decide) (t := .long) (t' := .long) (by decide) (by decide))))
  replace F11_mixedDurations := (F11_mixedDurations.other W14 (Or.inr (slot_ne (Or.inr (hw _ (List.mem_of_getElem? (i := 35) rfl))) (Or.inr (hw _ (List.mem_of_getElem? (i := 41) rfl))) (by decide) (t := .long) (t' := .long) (by decide) (by decide))))
  replace F12_frontLoad := (F12_frontLoad.other W14 (Or.inr (slot_ne (Or.inr (hw _ (List.mem_of_getElem? (i := 37) rfl))) (Or.inr (hw _ (List.mem_of_getElem? (i := 41) rfl))) (by decide) (t := .long) (t' := .long) (by decide) (by decide))))
  replace F13_roomPenalty := (F13_roomPenalty.other W14 (Or.inr (slot_ne (Or.inr (hw _ (List.mem_of_getElem? (i := 39) rfl))) (Or.inr (hw _ (List.mem_of_getElem? (i := 41) rfl))) (by decide) (t := .long) (t' := .long) (by decide) (by decide))))
  replace F14_periodPenalty := (F14_periodPenalty.same W14)
  replace K_a0 := own_K_wr K_a0 W14
  have N14 := Fr.snoc X14 N13 g_a0
  have Z14 : n0 ≤ h14.size := Nat.le_trans Z13 (Keep.of_wr W14).1
  have KK14 := KK13.wr W14 (Or.inl (by simp))
  exact own_retV X14 hP hx hlk e14 hret (hb hby d1_80) (by decide) (by decide) ⟨rfl, N14, KK14, E_a0, F2_unplaced, F3_conflicts, F4_roomOccupancy, F5_periodUtilisation, F6_periodRelated, F7_roomRelated, F8_twoInARow, F9_twoInADay, F10_periodSpread, F11_mixedDurations, F12_frontLoad, F13_roomPenalty, F14_periodPenalty⟩
theorem d5_0 : decode prog_21_method_4_code 0 = .ok (.aload_n 0, 1) := by decide +kernel
theorem d5_1 : decode prog_21_method_4_code 1 = .ok (.getfield 29, 3) := by decide +kernel
theorem d5_4 : decode prog_21_method_4_code 4 = .ok (.aload_n 0, 1) := by decide +kernel
theorem d5_5 : decode prog_21_method_4_code 5 = .ok (.getfield 32, 3) := by decide +kernel
theorem d5_8 : decode prog_21_method_4_code 8 = .ok (.ladd, 1) := by decide +kernel
theorem d5_9 : decode prog_21_method_4_code 9 = .ok (.aload_n 0, 1) := by decide +kernel
theorem d5_10 : decode prog_21_method_4_code 10 = .ok (.getfield 35, 3) := by decide +kernel
theorem d5_13 : decode prog_21_method_4_code 13 = .ok (.ladd, 1) := by decide +kernel
theorem d5_14 : decode prog_21_method_4_code 14 = .ok (.aload_n 0, 1) := by decide +kernel
theorem d5_15 : decode prog_21_method_4_code 15 = .ok (.getfield 38, 3) := by decide +kernel
theorem d5_18 : decode prog_21_method_4_code 18 = .ok (.ladd, 1) := by decide +kernel
theorem d5_19 : decode prog_21_method_4_code 19 = .ok (.aload_n 0, 1) := by decide +kernel
theorem d5_20 : decode prog_21_method_4_code 20 = .ok (.getfield 41, 3) := by decide +kernel
theorem d5_23 : decode prog_21_method_4_code 23 = .ok (.ladd, 1) := by decide +kernel
theorem d5_24 : decode prog_21_method_4_code 24 = .ok (.aload_n 0, 1) := by decide +kernel
theorem d5_25 : decode prog_21_method_4_code 25 = .ok (.getfield 44, 3) := by decide +kernel
theorem d5_28 : decode prog_21_method_4_code 28 = .ok (.ladd, 1) := by decide +kernel
theorem d5_29 : decode prog_21_method_4_code 29 = .ok (.aload_n 0, 1) := by decide +kernel
theorem d5_30 : decode prog_21_method_4_code 30 = .ok (.getfield 47, 3) := by decide +kernel
theorem d5_33 : decode prog_21_method_4_code 33 = .ok (.ladd, 1) := by decide +kernel
theorem d5_34 : decode prog_21_method_4_code 34 = .ok (.lreturn, 1) := by decide +kernel
set_option maxRecDepth 65536 in
set_option maxHeartbeats 4000000 in
theorem ef_5 (m : MethodId) (a0 : Addr) : entryFrame m #[(.ref a0)] 1 = mkF m 0 #[.val (.ref a0)] [] := by first | (simp [entryFrame, mkF, argsToLocals, Value.category]; done) | rfl
set_option maxRecDepth 65536 in
set_option maxHeartbeats 40000000 in
theorem rm5 (l : Launch) (Z : State) (aw : Array Value) (hw : ∀ d ∈ tables_1, d.before aw Z = true) {ws : List Jvm.Cond} (a0 : Addr) (w0 : Int64) (w1 : Int64) (w2 : Int64) (w3 : Int64) (w4 : Int64) (w5 : Int64) (w6 : Int64) (h0 : Heap) (n0 : Nat) (Z0 : n0 ≤ h0.size) (F_a0_twoInARow : Fld Z h0 a0 "com/example/slotwise/slotwise/Itc2007Score" "twoInARow" "J" (.long w0)) (F_a0_twoInADay : Fld Z h0 a0 "com/example/slotwise/slotwise/Itc2007Score" "twoInADay" "J" (.long w1)) (F_a0_periodSpread : Fld Z h0 a0 "com/example/slotwise/slotwise/Itc2007Score" "periodSpread" "J" (.long w2)) (F_a0_mixedDurations : Fld Z h0 a0 "com/example/slotwise/slotwise/Itc2007Score" "mixedDurations" "J" (.long w3)) (F_a0_frontLoad : Fld Z h0 a0 "com/example/slotwise/slotwise/Itc2007Score" "frontLoad" "J" (.long w4)) (F_a0_roomPenalty : Fld Z h0 a0 "com/example/slotwise/slotwise/Itc2007Score" "roomPenalty" "J" (.long w5)) (F_a0_periodPenalty : Fld Z h0 a0 "com/example/slotwise/slotwise/Itc2007Score" "periodPenalty" "J" (.long w6)) :
    own_Met l Z (⟨"com/example/slotwise/slotwise/Itc2007Score", "penalty", "()J"⟩ : MethodName) prog_21_method_4_code 1 (some .long) ws ({ frames := 0, cells := 0, slots := 0, locals := 0 } : Room) #[(.ref a0)] h0 (own_Pq (some (.long ((((((w0 + w1) + w2) + w3) + w4) + w5) + w6))) h0) := by
  refine own_body (plainFor_of_name pn_1) ?_
  intro p e s m below meth c s₁ hx hZ hby hml hown hnm hret hlk X0 e0
  replace hown : s.vm.findClass "com/example/slotwise/slotwise/Itc2007Score" = some m.cls := hown
  replace hml : c.maxLocals = 1 := hml
  obtain ⟨P, hP⟩ : ∃ P, P = own_P below s (own_Pq (some (.long ((((((w0 + w1) + w2) + w3) + w4) + w5) + w6))) h0) ({ frames := 0, cells := 0, slots := 0, locals := 0 } : Room).cells ({ frames := 0, cells := 0, slots := 0, locals := 0 } : Room).slots := ⟨_, rfl⟩
  rw [← hP]
  refine own_cast (ef_5 m a0) ?_
  refine own_go (T' := s₁) (f' := (mkF m 1 #[.val (.ref a0)] [(.ref a0)])) (fun t kt => ?_) ?_
  · show Steps p.tables e below (s₁.setTop (mkF m 0 #[.val (.ref a0)] [])) t
    refine XS.aloadN X0.here hx rfl (hb hby d5_0) rfl rfl ?_
    show Steps p.tables e below (s₁.setTop (mkF m 1 #[.val (.ref a0)] [(.ref a0)])) t
    exact kt
  obtain ⟨T1, X1, e1, st1⟩ := getF X0 hx hZ hown (host := "") (Or.inl (hw _ (List.mem_of_getElem? (i := 28) rfl))) Via.refl e0 F_a0_twoInARow (g := (mkF m 1 #[.val (.ref a0)] [(.ref a0)])) rfl rfl (hb hby d5_1)
  refine own_go st1 ?_
  refine own_go (T' := T1) (f' := (mkF m 5 #[.val (.ref a0)] [(.ref a0), (.long w0)])) (fun t kt => ?_) ?_
  · show Steps p.tables e below (T1.setTop (mkF m 4 #[.val (.ref a0)] [(.long w0)])) t
    refine XS.aloadN X1.here hx rfl (hb hby d5_4) rfl rfl ?_
    show Steps p.tables e below (T1.setTop (mkF m 5 #[.val (.ref a0)] [(.ref a0), (.long w0)])) t
    exact kt
  obtain ⟨T2, X2, e2, st2⟩ := getF X1 hx hZ hown (host := "") (Or.inl (hw _ (List.mem_of_getElem? (i := 30) rfl))) Via.refl e1 F_a0_twoInADay (g := (mkF m 5 #[.val (.ref a0)] [(.ref a0), (.long w0)])) rfl rfl (hb hby d5_5)
  refine own_go st2 ?_
  refine own_go (T' := T2) (f' := (mkF m 10 #[.val (.ref a0)] [(.ref a0), (.long (w0 + w1))])) (fun t kt => ?_) ?_
  · show Steps p.tables e below (T2.setTop (mkF m 8 #[.val (.ref a0)] [(.long w1), (.long w0)])) t
    refine XS.ladd X2.here hx rfl (hb hby d5_8) rfl ?_
    show Steps p.tables e below (T2.setTop (mkF m 9 #[.val (.ref a0)] [(.long (w0 + w1))])) t
    refine XS.aloadN X2.here hx rfl (hb hby d5_9) rfl rfl ?_
    show Steps p.tables e below (T2.setTop (mkF m 10 #[.val (.ref a0)] [(.ref a0), (.long (w0 + w1))])) t
    exact kt
  obtain ⟨T3, X3, e3, st3⟩ := getF X2 hx hZ hown (host := "") (Or.inl (hw _ (List.mem_of_getElem? (i := 32) rfl))) Via.refl e2 F_a0_periodSpread (g := (mkF m 10 #[.val (.ref a0)] [(.ref a0), (.long (w0 + w1))])) rfl rfl (hb hby d5_10)
  refine own_go st3 ?_
  refine own_go (T' := T3) (f' := (mkF m 15 #[.val (.ref a0)] [(.ref a0), (.long ((w0 + w1) + w2))])) (fun t kt => ?_) ?_
  · show Steps p.tables e below (T3.setTop (mkF m 13 #[.val (.ref a0)] [(.long w2), (.long (w0 + w1))])) t
    refine XS.ladd X3.here hx rfl (hb hby d5_13) rfl ?_
    show Steps p.tables e below (T3.setTop (mkF m 14 #[.val (.ref a0)] [(.long ((w0 + w1) + w2))])) t
    refine XS.aloadN X3.here hx rfl (hb hby d5_14) rfl rfl ?_
    show Steps p.tables e below (T3.setTop (mkF m 15 #[.val (.ref a0)] [(.ref a0), (.long ((w0 + w1) + w2))])) t
    exact kt
  obtain ⟨T4, X4, e4, st4⟩ := getF X3 hx hZ hown (host := "") (Or.inl (hw _ (List.mem_of_getElem? (i := 34) rfl))) Via.refl e3 F_a0_mixedDurations (g := (mkF m 15 #[.val (.ref a0)] [(.ref a0), (.long ((w0 + w1) + w2))])) rfl rfl (hb hby d5_15)
  refine own_go st4 ?_
  refine own_go (T' := T4) (f' := (mkF m 20 #[.val (.ref a0)] [(.ref a0), (.long (((w0 + w1) + w2) + w3))])) (fun t kt => ?_) ?_
  · show Steps p.tables e below (T4.setTop (mkF m 18 #[.val (.ref a0)] [(.long w3), (.long ((w0 + w1) + w2))])) t
    refine XS.ladd X4.here hx rfl (hb hby d5_18) rfl ?_
    show Steps p.tables e below (T4.setTop (mkF m 19 #[.val (.ref a0)] [(.long (((w0 + w1) + w2) + w3))])) t
    refine XS.aloadN X4.here hx rfl (hb hby d5_19) rfl rfl ?_
    show Steps p.tables e below (T4.setTop (mkF m 20 #[.val (.ref a0)] [(.ref a0), (.long (((w0 + w1) + w2) + w3))])) t
    exact kt
  obtain ⟨T5, X5, e5, st5⟩ := getF X4 hx hZ hown (host := "") (Or.inl (hw _ (List.mem_of_getElem? (i := 36) rfl))) Via.refl e4 F_a0_frontLoad (g := (mkF m 20 #[.val (.ref a0)] [(.ref a0), (.long (((w0 + w1) + w2) + w3))])) rfl rfl (hb hby d5_20)
  refine own_go st5 ?_
  refine own_go (T' := T5) (f' := (mkF m 25 #[.val (.ref a0)] [(.ref a0), (.long ((((w0 + w1) + w2) + w3) + w4))])) (fun t kt => ?_) ?_
  · show Steps p.tables e below (T5.setTop (mkF m 23 #[.val (.ref a0)] [(.long w4), (.long (((w0 + w1) + w2) + w3))])) t
    refine XS.ladd X5.here hx rfl (hb hby d5_23) rfl ?_
    show Steps p.tables e below (T5.setTop (mkF m 24 #[.val (.ref a0)] [(.long ((((w0 + w1) + w2) + w3) + w4))])) t
    refine XS.aloadN X5.here hx rfl (hb hby d5_24) rfl rfl ?_
    show Steps p.tables e below (T5.setTop (mkF m 25 #[.val (.ref a0)] [(.ref a0), (.long ((((w0 + w1) + w2) + w3) + w4))])) t
    exact kt
  obtain ⟨T6, X6, e6, st6⟩ := getF X5 hx hZ hown (host := "") (Or.inl (hw _ (List.mem_of_getElem? (i := 38) rfl))) Via.refl e5 F_a0_roomPenalty (g := (mkF m 25 #[.val (.ref a0)] [(.ref a0), (.long ((((w0 + w1) + w2) + w3) + w4))])) rfl rfl (hb hby d5_25)
  refine own_go st6 ?_
  refine own_go (T' := T6) (f' := (mkF m 30 #[.val (.ref a0)] [(.ref a0), (.long (((((w0 + w1) + w2) + w3) + w4) + w5))])) (fun t kt => ?_) ?_
  · show Steps p.tables e below (T6.setTop (mkF m 28 #[.val (.ref a0)] [(.long w5), (.long ((((w0 + w1) + w2) + w3) + w4))])) t
    refine XS.ladd X6.here hx rfl (hb hby d5_28) rfl ?_
    show Steps p.tables e below (T6.setTop (mkF m 29 #[.val (.ref a0)] [(.long (((((w0 + w1) + w2) + w3) + w4) + w5))])) t
    refine XS.aloadN X6.here hx rfl (hb hby d5_29) rfl rfl ?_
    show Steps p.tables e below (T6.setTop (mkF m 30 #[.val (.ref a0)] [(.ref a0), (.long (((((w0 + w1) + w2) + w3) + w4) + w5))])) t
    exact kt
  obtain ⟨T7, X7, e7, st7⟩ := getF X6 hx hZ hown (host := "") (Or.inl (hw _ (List.mem_of_getElem? (i := 40) rfl))) Via.refl e6 F_a0_periodPenalty (g := (mkF m 30 #[.val (.ref a0)] [(.ref a0), (.long (((((w0 + w1) + w2) + w3) + w4) + w5))])) rfl rfl (hb hby d5_30)
  refine own_go st7 ?_
  refine own_go (T' := T7) (f' := (mkF m 34 #[.val (.ref a0)] [(.long ((((((w0 + w1) + w2) + w3) + w4) + w5) + w6))])) (fun t kt => ?_) ?_
  · show Steps p.tables e below (T7.setTop (mkF m 33 #[.val (.ref a0)] [(.long w6), (.long (((((w0 + w1) + w2) + w3) + w4) + w5))])) t
    refine XS.ladd X7.here hx rfl (hb hby d5_33) rfl ?_
    show Steps p.tables e below (T7.setTop (mkF m 34 #[.val (.ref a0)] [(.long ((((((w0 + w1) + w2) + w3) + w4) + w5) + w6))])) t
    exact kt
  exact own_retJ X7 hP hx hlk e7 hret (hb hby d5_34) (by decide) (by decide) ⟨rfl, rfl, rfl⟩
theorem pn_2 : plainName "com/example/slotwise/slotwise/Itc2007ScorePenaltyPinLaw" = true := by first | (simp [plainName, overriddenIn]; done) | decide +kernel
theorem d4_0 : decode method_3_code 0 = .ok (.iload_n 0, 1) := by decide +kernel
theorem d4_1 : decode method_3_code 1 = .ok (.bipush 6, 2) := by decide +kernel
theorem d4_3 : decode method_3_code 3 = .ok (.if_icmp .lt 5, 3) := by decide +kernel
theorem d4_6 : decode method_3_code 6 = .ok (.lload_n 1, 1) := by decide +kernel
theorem d4_7 : decode method_3_code 7 = .ok (.lreturn, 1) := by decide +kernel
theorem d4_8 : decode method_3_code 8 = .ok (.lconst 0, 1) := by decide +kernel
theorem d4_9 : decode method_3_code 9 = .ok (.lreturn, 1) := by decide +kernel
set_option maxRecDepth 65536 in
set_option maxHeartbeats 4000000 in
theorem ef_4 (m : MethodId) (p0 : Int32) (q1 : Int64) : entryFrame m #[(.int p0), (.long q1)] 3 = mkF m 0 #[.val (.int p0), .val (.long q1), .second] [] := by first | (simp [entryFrame, mkF, argsToLocals, Value.category]; done) | rfl
set_option maxRecDepth 65536 in
set_option maxHeartbeats 40000000 in
theorem rm4 (l : Launch) (Z : State) (aw : Array Value) (hw : ∀ d ∈ tables_1, d.before aw Z = true) {ws : List Jvm.Cond} (p0 : Int32) (q1 : Int64)  (h0 : Heap) (n0 : Nat) (Z0 : n0 ≤ h0.size)  :
    own_Met l Z (⟨"com/example/slotwise/slotwise/Itc2007ScorePenaltyPinLaw", "contribution", "(IJ)J"⟩ : MethodName) method_3_code 3 (some .long) ws ({ frames := 0, cells := 0, slots := 0, locals := 0 } : Room) #[(.int p0), (.long q1)] h0 (own_Pq (some (.long (own_con p0 q1))) h0) := by
  refine own_body (plainFor_of_name pn_2) ?_
  intro p e s m below meth c s₁ hx hZ hby hml hown hnm hret hlk X0 e0
  replace hown : s.vm.findClass "com/example/slotwise/slotwise/Itc2007ScorePenaltyPinLaw" = some m.cls := hown
  replace hml : c.maxLocals = 3 := hml
  obtain ⟨P, hP⟩ : ∃ P, P = own_P below s (own_Pq (some (.long (own_con p0 q1))) h0) ({ frames := 0, cells := 0, slots := 0, locals := 0 } : Room).cells ({ frames := 0, cells := 0, slots := 0, locals := 0 } : Room).slots := ⟨_, rfl⟩
  rw [← hP]
  refine own_cast (ef_4 m p0 q1) ?_
  refine own_go (T' := s₁) (f' := (mkF m 3 #[.val (.int p0), .val (.long q1), .second] [(.int (6 : Int32)), (.int p0)])) (fun t kt => ?_) ?_
  · show Steps p.tables e below (s₁.setTop (mkF m 0 #[.val (.int p0), .val (.long q1), .second] [])) t
    refine XS.iloadN X0.here hx rfl (hb hby d4_0) rfl ?_
    show Steps p.tables e below (s₁.setTop (mkF m 1 #[.val (.int p0), .val (.long q1), .second] [(.int p0)])) t
    refine XS.bipush X0.here hx rfl (hb hby d4_1) ?_
    show Steps p.tables e below (s₁.setTop (mkF m 3 #[.val (.int p0), .val (.long q1), .second] [(.int (6 : Int32)), (.int p0)])) t
    exact kt
  by_cases hc3_1 : p0 < (6 : Int32)
  · refine own_go (T' := s₁) (f' := (mkF m 9 #[.val (.int p0), .val (.long q1), .second] [(.long (0 : Int64))])) (fun t kt => ?_) ?_
    · show Steps p.tables e below (s₁.setTop (mkF m 3 #[.val (.int p0), .val (.long q1), .second] [(.int (6 : Int32)), (.int p0)])) t
      refine XS.icmpYes X0.here hx rfl (pc0 := 3) (pc' := 8) rfl (hb hby d4_3) rfl (tlt hc3_1).1 (by decide) (by decide) ?_
      show Steps p.tables e below (s₁.setTop (mkF m 8 #[.val (.int p0), .val (.long q1), .second] [])) t
      refine XS.lconst X0.here hx rfl (hb hby d4_8) ?_
      show Steps p.tables e below (s₁.setTop (mkF m 9 #[.val (.int p0), .val (.long q1), .second] [(.long (0 : Int64))])) t
      exact kt
    exact own_retJ X0 hP hx hlk e0 hret (hb hby d4_9) (by decide) (by decide) ⟨(by rw [own_con, if_pos hc3_1]), rfl, rfl⟩
  · refine own_go (T' := s₁) (f' := (mkF m 7 #[.val (.int p0), .val (.long q1), .second] [(.long q1)])) (fun t kt => ?_) ?_
    · show Steps p.tables e below (s₁.setTop (mkF m 3 #[.val (.int p0), .val (.long q1), .second] [(.int (6 : Int32)), (.int p0)])) t
      refine XS.icmpNo X0.here hx rfl (hb hby d4_3) rfl (flt hc3_1).1 ?_
      show Steps p.tables e below (s₁.setTop (mkF m 6 #[.val (.int p0), .val (.long q1), .second] [])) t
      refine XS.lloadN X0.here hx rfl (hb hby d4_6) rfl ?_
      show Steps p.tables e below (s₁.setTop (mkF m 7 #[.val (.int p0), .val (.long q1), .second] [(.long q1)])) t
      exact kt
    exact own_retJ X0 hP hx hlk e0 hret (hb hby d4_7) (by decide) (by decide) ⟨(by rw [own_con, if_neg hc3_1]), rfl, rfl⟩
theorem pd_1 : parseMethodDescriptor "(IJJJJJJJJJJJJ)V" = some ⟨[.int, .long, .long, .long, .long, .long, .long, .long, .long, .long, .long, .long, .long], none⟩ := by decide +kernel
theorem pd_2 : parseMethodDescriptor "(IJ)J" = some ⟨[.int, .long], some .long⟩ := by decide +kernel
theorem pd_3 : parseMethodDescriptor "()J" = some ⟨[], some .long⟩ := by decide +kernel
set_option maxRecDepth 65536 in
set_option maxHeartbeats 4000000 in
theorem ef_0 (m : MethodId) (p0 : Int32) (p1 : Int32) (q2 : Int64) (q3 : Int64) : entryFrame m #[(.int p0), (.int p1), (.long q2), (.long q3)] maxLocals = mkF m 0 #[.val (.int p0), .val (.int p1), .val (.long q2), .second, .val (.long q3), .second, .unset, .unset, .unset, .unset, .unset, .unset] [] := by first | (simp [entryFrame, mkF, argsToLocals, Value.category, maxLocals]; done) | rfl
set_option maxRecDepth 65536 in
set_option maxHeartbeats 40000000 in
theorem rm0 (l : Launch) (Z : State) (aw : Array Value) (hw : ∀ d ∈ tables_1, d.before aw Z = true) {ws : List Jvm.Cond} (p0 : Int32) (p1 : Int32) (q2 : Int64) (q3 : Int64)  (h0 : Heap) (n0 : Nat) (Z0 : n0 ≤ h0.size)  :
    own_Met l Z x code maxLocals ret ws room_1 #[(.int p0), (.int p1), (.long q2), (.long q3)] h0 (fun v h L => v = some (.int 1) ∧ Fr n0 L) := by
  refine own_body (plainFor_of_name pn_2) ?_
  intro p e s m below meth c s₁ hx hZ hby hml hown hnm hret hlk X0 e0
  replace hown : s.vm.findClass "com/example/slotwise/slotwise/Itc2007ScorePenaltyPinLaw" = some m.cls := hown
  replace hml : c.maxLocals = 12 := hml
  have N0 := Fr.nil n0
  have K0 := Keep.refl h0 []
  obtain ⟨P, hP⟩ : ∃ P, P = own_P below s (fun v h L => v = some (.int 1) ∧ Fr n0 L) room_1.cells room_1.slots := ⟨_, rfl⟩
  rw [← hP]
  refine own_cast (ef_0 m p0 p1 q2 q3) ?_
  refine own_go (T' := s₁) (f' := (mkF m 7 #[.val (.int p0), .val (.int p1), .val (.long q2), .second, .val (.long q3), .second, .unset, .unset, .unset, .unset, .unset, .unset] [(.int ((p0 &&& (2147483647 : Int32)) % (13 : Int32)))])) (fun t kt => ?_) ?_
  · show Steps p.tables e below (s₁.setTop (mkF m 0 #[.val (.int p0), .val (.int p1), .val (.long q2), .second, .val (.long q3), .second, .unset, .unset, .unset, .unset, .unset, .unset] [])) t
    refine XS.iloadN X0.here hx rfl (hb hby at_0) rfl ?_
    show Steps p.tables e below (s₁.setTop (mkF m 1 #[.val (.int p0), .val (.int p1), .val (.long q2), .second, .val (.long q3), .second, .unset, .unset, .unset, .unset, .unset, .unset] [(.int p0)])) t
    refine X0.ldcInt hx hown (mvT hZ (hw _ (List.mem_of_getElem? (i := 0) rfl))) (g := (mkF m 1 #[.val (.int p0), .val (.int p1), .val (.long q2), .second, .val (.long q3), .second, .unset, .unset, .unset, .unset, .unset, .unset] [(.int p0)])) rfl (hb hby at_1) _ ?_
    show Steps p.tables e below (s₁.setTop (mkF m 3 #[.val (.int p0), .val (.int p1), .val (.long q2), .second, .val (.long q3), .second, .unset, .unset, .unset, .unset, .unset, .unset] [(.int (2147483647 : Int32)), (.int p0)])) t
    refine XS.iand X0.here hx rfl (hb hby at_3) rfl ?_
    show Steps p.tables e below (s₁.setTop (mkF m 4 #[.val (.int p0), .val (.int p1), .val (.long q2), .second, .val (.long q3), .second, .unset, .unset, .unset, .unset, .unset, .unset] [(.int (p0 &&& (2147483647 : Int32)))])) t
    refine XS.bipush X0.here hx rfl (hb hby at_4) ?_
    show Steps p.tables e below (s₁.setTop (mkF m 6 #[.val (.int p0), .val (.int p1), .val (.long q2), .second, .val (.long q3), .second, .unset, .unset, .unset, .unset, .unset, .unset] [(.int (13 : Int32)), (.int (p0 &&& (2147483647 : Int32)))])) t
    refine iremM X0 hx rfl (hb hby at_6) rfl (by decide) ?_
    show Steps p.tables e below (s₁.setTop (mkF m 7 #[.val (.int p0), .val (.int p1), .val (.long q2), .second, .val (.long q3), .second, .unset, .unset, .unset, .unset, .unset, .unset] [(.int ((p0 &&& (2147483647 : Int32)) % (13 : Int32)))])) t
    exact kt
  obtain ⟨va, hva⟩ : ∃ z, z = ((p0 &&& (2147483647 : Int32)) % (13 : Int32)) := ⟨_, rfl⟩
  rw [← hva]
  refine own_go (T' := s₁) (f' := (mkF m 24 #[.val (.int p0), .val (.int p1), .val (.long q2), .second, .val (.long q3), .second, .val (.int va), .unset, .unset, .unset, .unset, .unset] [(.int (((va + (1 : Int32)) + ((p1 &&& (2147483647 : Int32)) % (12 : Int32))) % (13 : Int32)))])) (fun t kt => ?_) ?_
  · show Steps p.tables e below (s₁.setTop (mkF m 7 #[.val (.int p0), .val (.int p1), .val (.long q2), .second, .val (.long q3), .second, .unset, .unset, .unset, .unset, .unset, .unset] [(.int va)])) t
    refine XS.istore X0.here hx rfl (hb hby at_7) rfl (l' := #[.val (.int p0), .val (.int p1), .val (.long q2), .second, .val (.long q3), .second, .val (.int va), .unset, .unset, .unset, .unset, .unset]) rfl ?_
    show Steps p.tables e below (s₁.setTop (mkF m 9 #[.val (.int p0), .val (.int p1), .val (.long q2), .second, .val (.long q3), .second, .val (.int va), .unset, .unset, .unset, .unset, .unset] [])) t
    refine XS.iload X0.here hx rfl (hb hby at_9) rfl ?_
    show Steps p.tables e below (s₁.setTop (mkF m 11 #[.val (.int p0), .val (.int p1), .val (.long q2), .second, .val (.long q3), .second, .val (.int va), .unset, .unset, .unset, .unset, .unset] [(.int va)])) t
    refine XS.iconst X0.here hx rfl (hb hby at_11) ?_
    show Steps p.tables e below (s₁.setTop (mkF m 12 #[.val (.int p0), .val (.int p1), .val (.long q2), .second, .val (.long q3), .second, .val (.int va), .unset, .unset, .unset, .unset, .unset] [(.int (1 : Int32)), (.int va)])) t
    refine XS.iadd X0.here hx rfl (hb hby at_12) rfl ?_
    show Steps p.tables e below (s₁.setTop (mkF m 13 #[.val (.int p0), .val (.int p1), .val (.long q2), .second, .val (.long q3), .second, .val (.int va), .unset, .unset, .unset, .unset, .unset] [(.int (va + (1 : Int32)))])) t
    refine XS.iloadN X0.here hx rfl (hb hby at_13) rfl ?_
    show Steps p.tables e below (s₁.setTop (mkF m 14 #[.val (.int p0), .val (.int p1), .val (.long q2), .second, .val (.long q3), .second, .val (.int va), .unset, .unset, .unset, .unset, .unset] [(.int p1), (.int (va + (1 : Int32)))])) t
    refine X0.ldcInt hx hown (mvT hZ (hw _ (List.mem_of_getElem? (i := 0) rfl))) (g := (mkF m 14 #[.val (.int p0), .val (.int p1), .val (.long q2), .second, .val (.long q3), .second, .val (.int va), .unset, .unset, .unset, .unset, .unset] [(.int p1), (.int (va + (1 : Int32)))])) rfl (hb hby at_14) _ ?_
    show Steps p.tables e below (s₁.setTop (mkF m 16 #[.val (.int p0), .val (.int p1), .val (.long q2), .second, .val (.long q3), .second, .val (.int va), .unset, .unset, .unset, .unset, .unset] [(.int (2147483647 : Int32)), (.int p1), (.int (va + (1 : Int32)))])) t
    refine XS.iand X0.here hx rfl (hb hby at_16) rfl ?_
    show Steps p.tables e below (s₁.setTop (mkF m 17 #[.val (.int p0), .val (.int p1), .val (.long q2), .second, .val (.long q3), .second, .val (.int va), .unset, .unset, .unset, .unset, .unset] [(.int (p1 &&& (2147483647 : Int32))), (.int (va + (1 : Int32)))])) t
    refine XS.bipush X0.here hx rfl (hb hby at_17) ?_
    show Steps p.tables e below (s₁.setTop (mkF m 19 #[.val (.int p0), .val (.int p1), .val (.long q2), .second, .val (.long q3), .second, .val (.int va), .unset, .unset, .unset, .unset, .unset] [(.int (12 : Int32)), (.int (p1 &&& (2147483647 : Int32))), (.int (va + (1 : Int32)))])) t
    refine iremM X0 hx rfl (hb hby at_19) rfl (by decide) ?_
    show Steps p.tables e below (s₁.setTop (mkF m 20 #[.val (.int p0), .val (.int p1), .val (.long q2), .second, .val (.long q3), .second, .val (.int va), .unset, .unset, .unset, .unset, .unset] [(.int ((p1 &&& (2147483647 : Int32)) % (12 : Int32))), (.int (va + (1 : Int32)))])) t
    refine XS.iadd X0.here hx rfl (hb hby at_20) rfl ?_
    show Steps p.tables e below (s₁.setTop (mkF m 21 #[.val (.int p0), .val (.int p1), .val (.long q2), .second, .val (.long q3), .second, .val (.int va), .unset, .unset, .unset, .unset, .unset] [(.int ((va + (1 : Int32)) + ((p1 &&& (2147483647 : Int32)) % (12 : Int32))))])) t
    refine XS.bipush X0.here hx rfl (hb hby at_21) ?_
    show Steps p.tables e below (s₁.setTop (mkF m 23 #[.val (.int p0), .val (.int p1), .val (.long q2), .second, .val (.long q3), .second, .val (.int va), .unset, .unset, .unset, .unset, .unset] [(.int (13 : Int32)), (.int ((va + (1 : Int32)) + ((p1 &&& (2147483647 : Int32)) % (12 : Int32))))])) t
    refine iremM X0 hx rfl (hb hby at_23) rfl (by decide) ?_
    show Steps p.tables e below (s₁.setTop (mkF m 24 #[.val (.int p0), .val (.int p1), .val (.long q2), .second, .val (.long q3), .second, .val (.int va), .unset, .unset, .unset, .unset, .unset] [(.int (((va + (1 : Int32)) + ((p1 &&& (2147483647 : Int32)) % (12 : Int32))) % (13 : Int32)))])) t
    exact kt
  obtain ⟨vb, hvb⟩ : ∃ z, z = (((va + (1 : Int32)) + ((p1 &&& (2147483647 : Int32)) % (12 : Int32))) % (13 : Int32)) := ⟨_, rfl⟩
  rw [← hvb]
  refine own_go (T' := s₁) (f' := (mkF m 28 #[.val (.int p0), .val (.int p1), .val (.long q2), .second, .val (.long q3), .second, .val (.int va), .val (.int vb), .unset, .unset, .unset, .unset] [(.int (13 : Int32))])) (fun t kt => ?_) ?_
  · show Steps p.tables e below (s₁.setTop (mkF m 24 #[.val (.int p0), .val (.int p1), .val (.long q2), .second, .val (.long q3), .second, .val (.int va), .unset, .unset, .unset, .unset, .unset] [(.int vb)])) t
    refine XS.istore X0.here hx rfl (hb hby at_24) rfl (l' := #[.val (.int p0), .val (.int p1), .val (.long q2), .second, .val (.long q3), .second, .val (.int va), .val (.int vb), .unset, .unset, .unset, .unset]) rfl ?_
    show Steps p.tables e below (s₁.setTop (mkF m 26 #[.val (.int p0), .val (.int p1), .val (.long q2), .second, .val (.long q3), .second, .val (.int va), .val (.int vb), .unset, .unset, .unset, .unset] [])) t
    refine XS.bipush X0.here hx rfl (hb hby at_26) ?_
    show Steps p.tables e below (s₁.setTop (mkF m 28 #[.val (.int p0), .val (.int p1), .val (.long q2), .second, .val (.long q3), .second, .val (.int va), .val (.int vb), .unset, .unset, .unset, .unset] [(.int (13 : Int32))])) t
    exact kt
  obtain ⟨T1, h1, k1, X1, e1, E1, A1, st1⟩ := newP X0 hx hZ (hw _ (List.mem_of_getElem? (i := 1) rfl)) e0 (g := (mkF m 28 #[.val (.int p0), .val (.int p1), .val (.long q2), .second, .val (.long q3), .second, .val (.int va), .val (.int vb), .unset, .unset, .unset, .unset] [(.int (13 : Int32))])) rfl (hb hby at_28) rfl (by decide) (cap := 13) (by decide) (by decide) (by decide) (by decide)
  obtain ⟨b1, y1⟩ : ∃ z, z = h0.size := ⟨_, rfl⟩
  rw [← y1] at A1 st1
  have g_b1 : n0 ≤ b1 := Nat.le_trans Z0 (Nat.le_of_eq y1.symm)
  have sz_b1 : h0.size ≤ b1 := Nat.le_trans K0.1 (Nat.le_of_eq y1.symm)
  have ZE1 : n0 ≤ h1.size := Nat.le_trans Z0 E1.1
  have KKE1 := K0.ext E1
  refine own_go st1 ?_
  have Ar_b1 : own_AJ Z h1 b1 13 (fun _ => (0 : Int64)) := own_A_new A1 (by decide)
  refine own_go (T' := T1) (f' := (mkF m 37 #[.val (.int p0), .val (.int p1), .val (.long q2), .second, .val (.long q3), .second, .val (.int va), .val (.int vb), .val (.ref b1), .unset, .unset, .unset] [(.long q2), (.int va), (.ref b1)])) (fun t kt => ?_) ?_
  · show Steps p.tables e below (T1.setTop (mkF m 30 #[.val (.int p0), .val (.int p1), .val (.long q2), .second, .val (.long q3), .second, .val (.int va), .val (.int vb), .unset, .unset, .unset, .unset] [(.ref b1)])) t
    refine XS.astore X1.here hx rfl (hb hby at_30) rfl rfl (l' := #[.val (.int p0), .val (.int p1), .val (.long q2), .second, .val (.long q3), .second, .val (.int va), .val (.int vb), .val (.ref b1), .unset, .unset, .unset]) rfl ?_
    show Steps p.tables e below (T1.setTop (mkF m 32 #[.val (.int p0), .val (.int p1), .val (.long q2), .second, .val (.long q3), .second, .val (.int va), .val (.int vb), .val (.ref b1), .unset, .unset, .unset] [])) t
    refine XS.aload X1.here hx rfl (hb hby at_32) rfl rfl ?_
    show Steps p.tables e below (T1.setTop (mkF m 34 #[.val (.int p0), .val (.int p1), .val (.long q2), .second, .val (.long q3), .second, .val (.int va), .val (.int vb), .val (.ref b1), .unset, .unset, .unset] [(.ref b1)])) t
    refine XS.iload X1.here hx rfl (hb hby at_34) rfl ?_
    show Steps p.tables e below (T1.setTop (mkF m 36 #[.val (.int p0), .val (.int p1), .val (.long q2), .second, .val (.long q3), .second, .val (.int va), .val (.int vb), .val (.ref b1), .unset, .unset, .unset] [(.int va), (.ref b1)])) t
    refine XS.lloadN X1.here hx rfl (hb hby at_36) rfl ?_
    show Steps p.tables e below (T1.setTop (mkF m 37 #[.val (.int p0), .val (.int p1), .val (.long q2), .second, .val (.long q3), .second, .val (.int va), .val (.int vb), .val (.ref b1), .unset, .unset, .unset] [(.long q2), (.int va), (.ref b1)])) t
    exact kt
  obtain ⟨T2, h2, X2, e2, W2, B2, st2⟩ := own_lastore X1 hx hZ e1 Ar_b1 (i := va.toInt.toNat) (own_a hva).1 (own_a hva).2 (g := (mkF m 37 #[.val (.int p0), .val (.int p1), .val (.long q2), .second, .val (.long q3), .second, .val (.int va), .val (.int vb), .val (.ref b1), .unset, .unset, .unset] [(.long q2), (.int va), (.ref b1)])) rfl rfl (hb hby at_37)
  refine own_go st2 ?_
  have N2 := Fr.snoc X2 N0 g_b1
  have Z2 : n0 ≤ h2.size := Nat.le_trans ZE1 (Keep.of_wr W2).1
  have KK2 := KKE1.wr W2 (Or.inr sz_b1)
  refine own_go (T' := T2) (f' := (mkF m 44 #[.val (.int p0), .val (.int p1), .val (.long q2), .second, .val (.long q3), .second, .val (.int va), .val (.int vb), .val (.ref b1), .unset, .unset, .unset] [(.long q3), (.int vb), (.ref b1)])) (fun t kt => ?_) ?_
  · show Steps p.tables e below (T2.setTop (mkF m 38 #[.val (.int p0), .val (.int p1), .val (.long q2), .second, .val (.long q3), .second, .val (.int va), .val (.int vb), .val (.ref b1), .unset, .unset, .unset] [])) t
    refine XS.aload X2.here hx rfl (hb hby at_38) rfl rfl ?_
    show Steps p.tables e below (T2.setTop (mkF m 40 #[.val (.int p0), .val (.int p1), .val (.long q2), .second, .val (.long q3), .second, .val (.int va), .val (.int vb), .val (.ref b1), .unset, .unset, .unset] [(.ref b1)])) t
    refine XS.iload X2.here hx rfl (hb hby at_40) rfl ?_
    show Steps p.tables e below (T2.setTop (mkF m 42 #[.val (.int p0), .val (.int p1), .val (.long q2), .second, .val (.long q3), .second, .val (.int va), .val (.int vb), .val (.ref b1), .unset, .unset, .unset] [(.int vb), (.ref b1)])) t
    refine XS.lload X2.here hx rfl (hb hby at_42) rfl ?_
    show Steps p.tables e below (T2.setTop (mkF m 44 #[.val (.int p0), .val (.int p1), .val (.long q2), .second, .val (.long q3), .second, .val (.int va), .val (.int vb), .val (.ref b1), .unset, .unset, .unset] [(.long q3), (.int vb), (.ref b1)])) t
    exact kt
  obtain ⟨T3, h3, X3, e3, W3, B3, st3⟩ := own_lastore X2 hx hZ e2 B2 (i := vb.toInt.toNat) (own_b hva hvb).1 (own_b hva hvb).2.1 (g := (mkF m 44 #[.val (.int p0), .val (.int p1), .val (.long q2), .second, .val (.long q3), .second, .val (.int va), .val (.int vb), .val (.ref b1), .unset, .unset, .unset] [(.long q3), (.int vb), (.ref b1)])) rfl rfl (hb hby at_44)
  refine own_go st3 ?_
  have N3 := Fr.snoc X3 N2 g_b1
  have Z3 : n0 ≤ h3.size := Nat.le_trans Z2 (Keep.of_wr W3).1
  have KK3 := KK2.wr W3 (Or.inr sz_b1)
  obtain ⟨fv, hfv⟩ : ∃ z, z = (own_set (own_set (fun _ => (0 : Int64)) va.toInt.toNat q2) vb.toInt.toNat q3) := ⟨_, rfl⟩
  rw [← hfv] at B3
  obtain ⟨T4, h4, X4, e4, E4, A4, D4, U4, st4⟩ := newO X3 hx hZ hown (hw _ (List.mem_of_getElem? (i := 2) rfl)) (hw _ (List.mem_of_getElem? (i := 3) rfl)) (hw _ (List.mem_of_getElem? (i := 4) rfl)) e3 (g := (mkF m 45 #[.val (.int p0), .val (.int p1), .val (.long q2), .second, .val (.long q3), .second, .val (.int va), .val (.int vb), .val (.ref b1), .unset, .unset, .unset] [])) rfl (hb hby at_45) (by decide) (by decide)
  obtain ⟨b4, y4⟩ : ∃ z, z = h3.size := ⟨_, rfl⟩
  rw [← y4] at A4 D4 U4 st4
  have ne_b1_b4 : b1 ≠ b4 := Nat.ne_of_lt (Nat.lt_of_lt_of_le B3.lt (Nat.le_of_eq y4.symm))
  have ne_b4_b1 := ne_b1_b4.symm
  have g_b4 : n0 ≤ b4 := Nat.le_trans Z3 (Nat.le_of_eq y4.symm)
  have sz_b4 : h0.size ≤ b4 := Nat.le_trans KK3.1 (Nat.le_of_eq y4.symm)
  replace B3 := (B3.ext E4)
  have ZE4 : n0 ≤ h4.size := Nat.le_trans Z3 E4.1
  have KKE4 := KK3.ext E4
  refine own_go st4 ?_
  have K_b4 := own_K_new U4
  refine own_go (T' := T4) (f' := (mkF m 109 #[.val (.int p0), .val (.int p1), .val (.long q2), .second, .val (.long q3), .second, .val (.int va), .val (.int vb), .val (.ref b1), .unset, .unset, .unset] [(.long (fv 12)), (.long (fv 11)), (.long (fv 10)), (.long (fv 9)), (.long (fv 8)), (.long (fv 7)), (.long (fv 6)), (.long (fv 5)), (.long (fv 4)), (.long (fv 3)), (.long (fv 2)), (.long (fv 1)), (.int ((fv 0).toInt32)), (.ref b4), (.ref b4)])) (fun t kt => ?_) ?_
  · show Steps p.tables e below (T4.setTop (mkF m 48 #[.val (.int p0), .val (.int p1), .val (.long q2), .second, .val (.long q3), .second, .val (.int va), .val (.int vb), .val (.ref b1), .unset, .unset, .unset] [(.ref b4)])) t
    refine XS.dup X4.here hx rfl (hb hby at_48) rfl rfl ?_
    show Steps p.tables e below (T4.setTop (mkF m 49 #[.val (.int p0), .val (.int p1), .val (.long q2), .second, .val (.long q3), .second, .val (.int va), .val (.int vb), .val (.ref b1), .unset, .unset, .unset] [(.ref b4), (.ref b4)])) t
    refine XS.aload X4.here hx rfl (hb hby at_49) rfl rfl ?_
    show Steps p.tables e below (T4.setTop (mkF m 51 #[.val (.int p0), .val (.int p1), .val (.long q2), .second, .val (.long q3), .second, .val (.int va), .val (.int vb), .val (.ref b1), .unset, .unset, .unset] [(.ref b1), (.ref b4), (.ref b4)])) t
    refine XS.iconst X4.here hx rfl (hb hby at_51) ?_
    show Steps p.tables e below (T4.setTop (mkF m 52 #[.val (.int p0), .val (.int p1), .val (.long q2), .second, .val (.long q3), .second, .val (.int va), .val (.int vb), .val (.ref b1), .unset, .unset, .unset] [(.int (0 : Int32)), (.ref b1), (.ref b4), (.ref b4)])) t
    refine own_laload X4 hx hZ e4 B3 (i := 0) (by decide) (by decide) (g := (mkF m 52 #[.val (.int p0), .val (.int p1), .val (.long q2), .second, .val (.long q3), .second, .val (.int va), .val (.int vb), .val (.ref b1), .unset, .unset, .unset] [(.int (0 : Int32)), (.ref b1), (.ref b4), (.ref b4)])) rfl rfl (hb hby at_52) _ ?_
    show Steps p.tables e below (T4.setTop (mkF m 53 #[.val (.int p0), .val (.int p1), .val (.long q2), .second, .val (.long q3), .second, .val (.int va), .val (.int vb), .val (.ref b1), .unset, .unset, .unset] [(.long (fv 0)), (.ref b4), (.ref b4)])) t
    refine XS.l2i X4.here hx rfl (hb hby at_53) rfl ?_
    show Steps p.tables e below (T4.setTop (mkF m 54 #[.val (.int p0), .val (.int p1), .val (.long q2), .second, .val (.long q3), .second, .val (.int va), .val (.int vb), .val (.ref b1), .unset, .unset, .unset] [(.int ((fv 0).toInt32)), (.ref b4), (.ref b4)])) t
    refine XS.aload X4.here hx rfl (hb hby at_54) rfl rfl ?_
    show Steps p.tables e below (T4.setTop (mkF m 56 #[.val (.int p0), .val (.int p1), .val (.long q2), .second, .val (.long q3), .second, .val (.int va), .val (.int vb), .val (.ref b1), .unset, .unset, .unset] [(.ref b1), (.int ((fv 0).toInt32)), (.ref b4), (.ref b4)])) t
    refine XS.iconst X4.here hx rfl (hb hby at_56) ?_
    show Steps p.tables e below (T4.setTop (mkF m 57 #[.val (.int p0), .val (.int p1), .val (.long q2), .second, .val (.long q3), .second, .val (.int va), .val (.int vb), .val (.ref b1), .unset, .unset, .unset] [(.int (1 : Int32)), (.ref b1), (.int ((fv 0).toInt32)), (.ref b4), (.ref b4)])) t
    refine own_laload X4 hx hZ e4 B3 (i := 1) (by decide) (by decide) (g := (mkF m 57 #[.val (.int p0), .val (.int p1), .val (.long q2), .second, .val (.long q3), .second, .val (.int va), .val (.int vb), .val (.ref b1), .unset, .unset, .unset] [(.int (1 : Int32)), (.ref b1), (.int ((fv 0).toInt32)), (.ref b4), (.ref b4)])) rfl rfl (hb hby at_57) _ ?_
    show Steps p.tables e below (T4.setTop (mkF m 58 #[.val (.int p0), .val (.int p1), .val (.long q2), .second, .val (.long q3), .second, .val (.int va), .val (.int vb), .val (.ref b1), .unset, .unset, .unset] [(.long (fv 1)), (.int ((fv 0).toInt32)), (.ref b4), (.ref b4)])) t
    refine XS.aload X4.here hx rfl (hb hby at_58) rfl rfl ?_
    show Steps p.tables e below (T4.setTop (mkF m 60 #[.val (.int p0), .val (.int p1), .val (.long q2), .second, .val (.long q3), .second, .val (.int va), .val (.int vb), .val (.ref b1), .unset, .unset, .unset] [(.ref b1), (.long (fv 1)), (.int ((fv 0).toInt32)), (.ref b4), (.ref b4)])) t
    refine XS.iconst X4.here hx rfl (hb hby at_60) ?_
    show Steps p.tables e below (T4.setTop (mkF m 61 #[.val (.int p0), .val (.int p1), .val (.long q2), .second, .val (.long q3), .second, .val (.int va), .val (.int vb), .val (.ref b1), .unset, .unset, .unset] [(.int (2 : Int32)), (.ref b1), (.long (fv 1)), (.int ((fv 0).toInt32)), (.ref b4), (.ref b4)])) t
    refine own_laload X4 hx hZ e4 B3 (i := 2) (by decide) (by decide) (g := (mkF m 61 #[.val (.int p0), .val (.int p1), .val (.long q2), .second, .val (.long q3), .second, .val (.int va), .val (.int vb), .val (.ref b1), .unset, .unset, .unset] [(.int (2 : Int32)), (.ref b1), (.long (fv 1)), (.int ((fv 0).toInt32)), (.ref b4), (.ref b4)])) rfl rfl (hb hby at_61) _ ?_
    show Steps p.tables e below (T4.setTop (mkF m 62 #[.val (.int p0), .val (.int p1), .val (.long q2), .second, .val (.long q3), .second, .val (.int va), .val (.int vb), .val (.ref b1), .unset, .unset, .unset] [(.long (fv 2)), (.long (fv 1)), (.int ((fv 0).toInt32)), (.ref b4), (.ref b4)])) t
    refine XS.aload X4.here hx rfl (hb hby at_62) rfl rfl ?_
    show Steps p.tables e below (T4.setTop (mkF m 64 #[.val (.int p0), .val (.int p1), .val (.long q2), .second, .val (.long q3), .second, .val (.int va), .val (.int vb), .val (.ref b1), .unset, .unset, .unset] [(.ref b1), (.long (fv 2)), (.long (fv 1)), (.int ((fv 0).toInt32)), (.ref b4), (.ref b4)])) t
    refine XS.iconst X4.here hx rfl (hb hby at_64) ?_
    show Steps p.tables e below (T4.setTop (mkF m 65 #[.val (.int p0), .val (.int p1), .val (.long q2), .second, .val (.long q3), .second, .val (.int va), .val (.int vb), .val (.ref b1), .unset, .unset, .unset] [(.int (3 : Int32)), (.ref b1), (.long (fv 2)), (.long (fv 1)), (.int ((fv 0).toInt32)), (.ref b4), (.ref b4)])) t
    refine own_laload X4 hx hZ e4 B3 (i := 3) (by decide) (by decide) (g := (mkF m 65 #[.val (.int p0), .val (.int p1), .val (.long q2), .second, .val (.long q3), .second, .val (.int va), .val (.int vb), .val (.ref b1), .unset, .unset, .unset] [(.int (3 : Int32)), (.ref b1), (.long (fv 2)), (.long (fv 1)), (.int ((fv 0).toInt32)), (.ref b4), (.ref b4)])) rfl rfl (hb hby at_65) _ ?_
    show Steps p.tables e below (T4.setTop (mkF m 66 #[.val (.int p0), .val (.int p1), .val (.long q2), .second, .val (.long q3), .second, .val (.int va), .val (.int vb), .val (.ref b1), .unset, .unset, .unset] [(.long (fv 3)), (.long (fv 2)), (.long (fv 1)), (.int ((fv 0).toInt32)), (.ref b4), (.ref b4)])) t
    refine XS.aload X4.here hx rfl (hb hby at_66) rfl rfl ?_
    show Steps p.tables e below (T4.setTop (mkF m 68 #[.val (.int p0), .val (.int p1), .val (.long q2), .second, .val (.long q3), .second, .val (.int va), .val (.int vb), .val (.ref b1), .unset, .unset, .unset] [(.ref b1), (.long (fv 3)), (.long (fv 2)), (.long (fv 1)), (.int ((fv 0).toInt32)), (.ref b4), (.ref b4)])) t
    refine XS.iconst X4.here hx rfl (hb hby at_68) ?_
    show Steps p.tables e below (T4.setTop (mkF m 69 #[.val (.int p0), .val (.int p1), .val (.long q2), .second, .val (.long q3), .second, .val (.int va), .val (.int vb), .val (.ref b1), .unset, .unset, .unset] [(.int (4 : Int32)), (.ref b1), (.long (fv 3)), (.long (fv 2)), (.long (fv 1)), (.int ((fv 0).toInt32)), (.ref b4), (.ref b4)])) t
    refine own_laload X4 hx hZ e4 B3 (i := 4) (by decide) (by decide) (g := (mkF m 69 #[.val (.int p0), .val (.int p1), .val (.long q2), .second, .val (.long q3), .second, .val (.int va), .val (.int vb), .val (.ref b1), .unset, .unset, .unset] [(.int (4 : Int32)), (.ref b1), (.long (fv 3)), (.long (fv 2)), (.long (fv 1)), (.int ((fv 0).toInt32)), (.ref b4), (.ref b4)])) rfl rfl (hb hby at_69) _ ?_
    show Steps p.tables e below (T4.setTop (mkF m 70 #[.val (.int p0), .val (.int p1), .val (.long q2), .second, .val (.long q3), .second, .val (.int va), .val (.int vb), .val (.ref b1), .unset, .unset, .unset] [(.long (fv 4)), (.long (fv 3)), (.long (fv 2)), (.long (fv 1)), (.int ((fv 0).toInt32)), (.ref b4), (.ref b4)])) t
    refine XS.aload X4.here hx rfl (hb hby at_70) rfl rfl ?_
    show Steps p.tables e below (T4.setTop (mkF m 72 #[.val (.int p0), .val (.int p1), .val (.long q2), .second, .val (.long q3), .second, .val (.int va), .val (.int vb), .val (.ref b1), .unset, .unset, .unset] [(.ref b1), (.long (fv 4)), (.long (fv 3)), (.long (fv 2)), (.long (fv 1)), (.int ((fv 0).toInt32)), (.ref b4), (.ref b4)])) t
    refine XS.iconst X4.here hx rfl (hb hby at_72) ?_
    show Steps p.tables e below (T4.setTop (mkF m 73 #[.val (.int p0), .val (.int p1), .val (.long q2), .second, .val (.long q3), .second, .val (.int va), .val (.int vb), .val (.ref b1), .unset, .unset, .unset] [(.int (5 : Int32)), (.ref b1), (.long (fv 4)), (.long (fv 3)), (.long (fv 2)), (.long (fv 1)), (.int ((fv 0).toInt32)), (.ref b4), (.ref b4)])) t
    refine own_laload X4 hx hZ e4 B3 (i := 5) (by decide) (by decide) (g := (mkF m 73 #[.val (.int p0), .val (.int p1), .val (.long q2), .second, .val (.long q3), .second, .val (.int va), .val (.int vb), .val (.ref b1), .unset, .unset, .unset] [(.int (5 : Int32)), (.ref b1), (.long (fv 4)), (.long (fv 3)), (.long (fv 2)), (.long (fv 1)), (.int ((fv 0).toInt32)), (.ref b4), (.ref b4)])) rfl rfl (hb hby at_73) _ ?_
    show Steps p.tables e below (T4.setTop (mkF m 74 #[.val (.int p0), .val (.int p1), .val (.long q2), .second, .val (.long q3), .second, .val (.int va), .val (.int vb), .val (.ref b1), .unset, .unset, .unset] [(.long (fv 5)), (.long (fv 4)), (.long (fv 3)), (.long (fv 2)), (.long (fv 1)), (.int ((fv 0).toInt32)), (.ref b4), (.ref b4)])) t
    refine XS.aload X4.here hx rfl (hb hby at_74) rfl rfl ?_
    show Steps p.tables e below (T4.setTop (mkF m 76 #[.val (.int p0), .val (.int p1), .val (.long q2), .second, .val (.long q3), .second, .val (.int va), .val (.int vb), .val (.ref b1), .unset, .unset, .unset] [(.ref b1), (.long (fv 5)), (.long (fv 4)), (.long (fv 3)), (.long (fv 2)), (.long (fv 1)), (.int ((fv 0).toInt32)), (.ref b4), (.ref b4)])) t
    refine XS.bipush X4.here hx rfl (hb hby at_76) ?_
    show Steps p.tables e below (T4.setTop (mkF m 78 #[.val (.int p0), .val (.int p1), .val (.long q2), .second, .val (.long q3), .second, .val (.int va), .val (.int vb), .val (.ref b1), .unset, .unset, .unset] [(.int (6 : Int32)), (.ref b1), (.long (fv 5)), (.long (fv 4)), (.long (fv 3)), (.long (fv 2)), (.long (fv 1)), (.int ((fv 0).toInt32)), (.ref b4), (.ref b4)])) t
    refine own_laload X4 hx hZ e4 B3 (i := 6) (by decide) (by decide) (g := (mkF m 78 #[.val (.int p0), .val (.int p1), .val (.long q2), .second, .val (.long q3), .second, .val (.int va), .val (.int vb), .val (.ref b1), .unset, .unset, .unset] [(.int (6 : Int32)), (.ref b1), (.long (fv 5)), (.long (fv 4)), (.long (fv 3)), (.long (fv 2)), (.long (fv 1)), (.int ((fv 0).toInt32)), (.ref b4), (.ref b4)])) rfl rfl (hb hby at_78) _ ?_
    show Steps p.tables e below (T4.setTop (mkF m 79 #[.val (.int p0), .val (.int p1), .val (.long q2), .second, .val (.long q3), .second, .val (.int va), .val (.int vb), .val (.ref b1), .unset, .unset, .unset] [(.long (fv 6)), (.long (fv 5)), (.long (fv 4)), (.long (fv 3)), (.long (fv 2)), (.long (fv 1)), (.int ((fv 0).toInt32)), (.ref b4), (.ref b4)])) t
    refine XS.aload X4.here hx rfl (hb hby at_79) rfl rfl ?_
    show Steps p.tables e below (T4.setTop (mkF m 81 #[.val (.int p0), .val (.int p1), .val (.long q2), .second, .val (.long q3), .second, .val (.int va), .val (.int vb), .val (.ref b1), .unset, .unset, .unset] [(.ref b1), (.long (fv 6)), (.long (fv 5)), (.long (fv 4)), (.long (fv 3)), (.long (fv 2)), (.long (fv 1)), (.int ((fv 0).toInt32)), (.ref b4), (.ref b4)])) t
    refine XS.bipush X4.here hx rfl (hb hby at_81) ?_
    show Steps p.tables e below (T4.setTop (mkF m 83 #[.val (.int p0), .val (.int p1), .val (.long q2), .second, .val (.long q3), .second, .val (.int va), .val (.int vb), .val (.ref b1), .unset, .unset, .unset] [(.int (7 : Int32)), (.ref b1), (.long (fv 6)), (.long (fv 5)), (.long (fv 4)), (.long (fv 3)), (.long (fv 2)), (.long (fv 1)), (.int ((fv 0).toInt32)), (.ref b4), (.ref b4)])) t
    refine own_laload X4 hx hZ e4 B3 (i := 7) (by decide) (by decide) (g := (mkF m 83 #[.val (.int p0), .val (.int p1), .val (.long q2), .second, .val (.long q3), .second, .val (.int va), .val (.int vb), .val (.ref b1), .unset, .unset, .unset] [(.int (7 : Int32)), (.ref b1), (.long (fv 6)), (.long (fv 5)), (.long (fv 4)), (.long (fv 3)), (.long (fv 2)), (.long (fv 1)), (.int ((fv 0).toInt32)), (.ref b4), (.ref b4)])) rfl rfl (hb hby at_83) _ ?_
    show Steps p.tables e below (T4.setTop (mkF m 84 #[.val (.int p0), .val (.int p1), .val (.long q2), .second, .val (.long q3), .second, .val (.int va), .val (.int vb), .val (.ref b1), .unset, .unset, .unset] [(.long (fv 7)), (.long (fv 6)), (.long (fv 5)), (.long (fv 4)), (.long (fv 3)), (.long (fv 2)), (.long (fv 1)), (.int ((fv 0).toInt32)), (.ref b4), (.ref b4)])) t
    refine XS.aload X4.here hx rfl (hb hby at_84) rfl rfl ?_
    show Steps p.tables e below (T4.setTop (mkF m 86 #[.val (.int p0), .val (.int p1), .val (.long q2), .second, .val (.long q3), .second, .val (.int va), .val (.int vb), .val (.ref b1), .unset, .unset, .unset] [(.ref b1), (.long (fv 7)), (.long (fv 6)), (.long (fv 5)), (.long (fv 4)), (.long (fv 3)), (.long (fv 2)), (.long (fv 1)), (.int ((fv 0).toInt32)), (.ref b4), (.ref b4)])) t
    refine XS.bipush X4.here hx rfl (hb hby at_86) ?_
    show Steps p.tables e below (T4.setTop (mkF m 88 #[.val (.int p0), .val (.int p1), .val (.long q2), .second, .val (.long q3), .second, .val (.int va), .val (.int vb), .val (.ref b1), .unset, .unset, .unset] [(.int (8 : Int32)), (.ref b1), (.long (fv 7)), (.long (fv 6)), (.long (fv 5)), (.long (fv 4)), (.long (fv 3)), (.long (fv 2)), (.long (fv 1)), (.int ((fv 0).toInt32)), (.ref b4), (.ref b4)])) t
    refine own_laload X4 hx hZ e4 B3 (i := 8) (by decide) (by decide) (g := (mkF m 88 #[.val (.int p0), .val (.int p1), .val (.long q2), .second, .val (.long q3), .second, .val (.int va), .val (.int vb), .val (.ref b1), .unset, .unset, .unset] [(.int (8 : Int32)), (.ref b1), (.long (fv 7)), (.long (fv 6)), (.long (fv 5)), (.long (fv 4)), (.long (fv 3)), (.long (fv 2)), (.long (fv 1)), (.int ((fv 0).toInt32)), (.ref b4), (.ref b4)])) rfl rfl (hb hby at_88) _ ?_
    show Steps p.tables e below (T4.setTop (mkF m 89 #[.val (.int p0), .val (.int p1), .val (.long q2), .second, .val (.long q3), .second, .val (.int va), .val (.int vb), .val (.ref b1), .unset, .unset, .unset] [(.long (fv 8)), (.long (fv 7)), (.long (fv 6)), (.long (fv 5)), (.long (fv 4)), (.long (fv 3)), (.long (fv 2)), (.long (fv 1)), (.int ((fv 0).toInt32)), (.ref b4), (.ref b4)])) t
    refine XS.aload X4.here hx rfl (hb hby at_89) rfl rfl ?_
    show Steps p.tables e below (T4.setTop (mkF m 91 #[.val (.int p0), .val (.int p1), .val (.long q2), .second, .val (.long q3), .second, .val (.int va), .val (.int vb), .val (.ref b1), .unset, .unset, .unset] [(.ref b1), (.long (fv 8)), (.long (fv 7)), (.long (fv 6)), (.long (fv 5)), (.long (fv 4)), (.long (fv 3)), (.long (fv 2)), (.long (fv 1)), (.int ((fv 0).toInt32)), (.ref b4), (.ref b4)])) t
    refine XS.bipush X4.here hx rfl (hb hby at_91) ?_
    show Steps p.tables e below (T4.setTop (mkF m 93 #[.val (.int p0), .val (.int p1), .val (.long q2), .second, .val (.long q3), .second, .val (.int va), .val (.int vb), .val (.ref b1), .unset, .unset, .unset] [(.int (9 : Int32)), (.ref b1), (.long (fv 8)), (.long (fv 7)), (.long (fv 6)), (.long (fv 5)), (.long (fv 4)), (.long (fv 3)), (.long (fv 2)), (.long (fv 1)), (.int ((fv 0).toInt32)), (.ref b4), (.ref b4)])) t
    refine own_laload X4 hx hZ e4 B3 (i := 9) (by decide) (by decide) (g := (mkF m 93 #[.val (.int p0), .val (.int p1), .val (.long q2), .second, .val (.long q3), .second, .val (.int va), .val (.int vb), .val (.ref b1), .unset, .unset, .unset] [(.int (9 : Int32)), (.ref b1), (.long (fv 8)), (.long (fv 7)), (.long (fv 6)), (.long (fv 5)), (.long (fv 4)), (.long (fv 3)), (.long (fv 2)), (.long (fv 1)), (.int ((fv 0).toInt32)), (.ref b4), (.ref b4)])) rfl rfl (hb hby at_93) _ ?_
    show Steps p.tables e below (T4.setTop (mkF m 94 #[.val (.int p0), .val (.int p1), .val (.long q2), .second, .val (.long q3), .second, .val (.int va), .val (.int vb), .val (.ref b1), .unset, .unset, .unset] [(.long (fv 9)), (.long (fv 8)), (.long (fv 7)), (.long (fv 6)), (.long (fv 5)), (.long (fv 4)), (.long (fv 3)), (.long (fv 2)), (.long (fv 1)), (.int ((fv 0).toInt32)), (.ref b4), (.ref b4)])) t
    refine XS.aload X4.here hx rfl (hb hby at_94) rfl rfl ?_
    show Steps p.tables e below (T4.setTop (mkF m 96 #[.val (.int p0), .val (.int p1), .val (.long q2), .second, .val (.long q3), .second, .val (.int va), .val (.int vb), .val (.ref b1), .unset, .unset, .unset] [(.ref b1), (.long (fv 9)), (.long (fv 8)), (.long (fv 7)), (.long (fv 6)), (.long (fv 5)), (.long (fv 4)), (.long (fv 3)), (.long (fv 2)), (.long (fv 1)), (.int ((fv 0).toInt32)), (.ref b4), (.ref b4)])) t
    refine XS.bipush X4.here hx rfl (hb hby at_96) ?_
    show Steps p.tables e below (T4.setTop (mkF m 98 #[.val (.int p0), .val (.int p1), .val (.long q2), .second, .val (.long q3), .second, .val (.int va), .val (.int vb), .val (.ref b1), .unset, .unset, .unset] [(.int (10 : Int32)), (.ref b1), (.long (fv 9)), (.long (fv 8)), (.long (fv 7)), (.long (fv 6)), (.long (fv 5)), (.long (fv 4)), (.long (fv 3)), (.long (fv 2)), (.long (fv 1)), (.int ((fv 0).toInt32)), (.ref b4), (.ref b4)])) t
    refine own_laload X4 hx hZ e4 B3 (i := 10) (by decide) (by decide) (g := (mkF m 98 #[.val (.int p0), .val (.int p1), .val (.long q2), .second, .val (.long q3), .second, .val (.int va), .val (.int vb), .val (.ref b1), .unset, .unset, .unset] [(.int (10 : Int32)), (.ref b1), (.long (fv 9)), (.long (fv 8)), (.long (fv 7)), (.long (fv 6)), (.long (fv 5)), (.long (fv 4)), (.long (fv 3)), (.long (fv 2)), (.long (fv 1)), (.int ((fv 0).toInt32)), (.ref b4), (.ref b4)])) rfl rfl (hb hby at_98) _ ?_
    show Steps p.tables e below (T4.setTop (mkF m 99 #[.val (.int p0), .val (.int p1), .val (.long q2), .second, .val (.long q3), .second, .val (.int va), .val (.int vb), .val (.ref b1), .unset, .unset, .unset] [(.long (fv 10)), (.long (fv 9)), (.long (fv 8)), (.long (fv 7)), (.long (fv 6)), (.long (fv 5)), (.long (fv 4)), (.long (fv 3)), (.long (fv 2)), (.long (fv 1)), (.int ((fv 0).toInt32)), (.ref b4), (.ref b4)])) t
    refine XS.aload X4.here hx rfl (hb hby at_99) rfl rfl ?_
    show Steps p.tables e below (T4.setTop (mkF m 101 #[.val (.int p0), .val (.int p1), .val (.long q2), .second, .val (.long q3), .second, .val (.int va), .val (.int vb), .val (.ref b1), .unset, .unset, .unset] [(.ref b1), (.long (fv 10)), (.long (fv 9)), (.long (fv 8)), (.long (fv 7)), (.long (fv 6)), (.long (fv 5)), (.long (fv 4)), (.long (fv 3)), (.long (fv 2)), (.long (fv 1)), (.int ((fv 0).toInt32)), (.ref b4), (.ref b4)])) t
    refine XS.bipush X4.here hx rfl (hb hby at_101) ?_
    show Steps p.tables e below (T4.setTop (mkF m 103 #[.val (.int p0), .val (.int p1), .val (.long q2), .second, .val (.long q3), .second, .val (.int va), .val (.int vb), .val (.ref b1), .unset, .unset, .unset] [(.int (11 : Int32)), (.ref b1), (.long (fv 10)), (.long (fv 9)), (.long (fv 8)), (.long (fv 7)), (.long (fv 6)), (.long (fv 5)), (.long (fv 4)), (.long (fv 3)), (.long (fv 2)), (.long (fv 1)), (.int ((fv 0).toInt32)), (.ref b4), (.ref b4)])) t
    refine own_laload X4 hx hZ e4 B3 (i := 11) (by decide) (by decide) (g := (mkF m 103 #[.val (.int p0), .val (.int p1), .val (.long q2), .second, .val (.long q3), .second, .val (.int va), .val (.int vb), .val (.ref b1), .unset, .unset, .unset] [(.int (11 : Int32)), (.ref b1), (.long (fv 10)), (.long (fv 9)), (.long (fv 8)), (.long (fv 7)), (.long (fv 6)), (.long (fv 5)), (.long (fv 4)), (.long (fv 3)), (.long (fv 2)), (.long (fv 1)), (.int ((fv 0).toInt32)), (.ref b4), (.ref b4)])) rfl rfl (hb hby at_103) _ ?_
    show Steps p.tables e below (T4.setTop (mkF m 104 #[.val (.int p0), .val (.int p1), .val (.long q2), .second, .val (.long q3), .second, .val (.int va), .val (.int vb), .val (.ref b1), .unset, .unset, .unset] [(.long (fv 11)), (.long (fv 10)), (.long (fv 9)), (.long (fv 8)), (.long (fv 7)), (.long (fv 6)), (.long (fv 5)), (.long (fv 4)), (.long (fv 3)), (.long (fv 2)), (.long (fv 1)), (.int ((fv 0).toInt32)), (.ref b4), (.ref b4)])) t
    refine XS.aload X4.here hx rfl (hb hby at_104) rfl rfl ?_
    show Steps p.tables e below (T4.setTop (mkF m 106 #[.val (.int p0), .val (.int p1), .val (.long q2), .second, .val (.long q3), .second, .val (.int va), .val (.int vb), .val (.ref b1), .unset, .unset, .unset] [(.ref b1), (.long (fv 11)), (.long (fv 10)), (.long (fv 9)), (.long (fv 8)), (.long (fv 7)), (.long (fv 6)), (.long (fv 5)), (.long (fv 4)), (.long (fv 3)), (.long (fv 2)), (.long (fv 1)), (.int ((fv 0).toInt32)), (.ref b4), (.ref b4)])) t
    refine XS.bipush X4.here hx rfl (hb hby at_106) ?_
    show Steps p.tables e below (T4.setTop (mkF m 108 #[.val (.int p0), .val (.int p1), .val (.long q2), .second, .val (.long q3), .second, .val (.int va), .val (.int vb), .val (.ref b1), .unset, .unset, .unset] [(.int (12 : Int32)), (.ref b1), (.long (fv 11)), (.long (fv 10)), (.long (fv 9)), (.long (fv 8)), (.long (fv 7)), (.long (fv 6)), (.long (fv 5)), (.long (fv 4)), (.long (fv 3)), (.long (fv 2)), (.long (fv 1)), (.int ((fv 0).toInt32)), (.ref b4), (.ref b4)])) t
    refine own_laload X4 hx hZ e4 B3 (i := 12) (by decide) (by decide) (g := (mkF m 108 #[.val (.int p0), .val (.int p1), .val (.long q2), .second, .val (.long q3), .second, .val (.int va), .val (.int vb), .val (.ref b1), .unset, .unset, .unset] [(.int (12 : Int32)), (.ref b1), (.long (fv 11)), (.long (fv 10)), (.long (fv 9)), (.long (fv 8)), (.long (fv 7)), (.long (fv 6)), (.long (fv 5)), (.long (fv 4)), (.long (fv 3)), (.long (fv 2)), (.long (fv 1)), (.int ((fv 0).toInt32)), (.ref b4), (.ref b4)])) rfl rfl (hb hby at_108) _ ?_
    show Steps p.tables e below (T4.setTop (mkF m 109 #[.val (.int p0), .val (.int p1), .val (.long q2), .second, .val (.long q3), .second, .val (.int va), .val (.int vb), .val (.ref b1), .unset, .unset, .unset] [(.long (fv 12)), (.long (fv 11)), (.long (fv 10)), (.long (fv 9)), (.long (fv 8)), (.long (fv 7)), (.long (fv 6)), (.long (fv 5)), (.long (fv 4)), (.long (fv 3)), (.long (fv 2)), (.long (fv 1)), (.int ((fv 0).toInt32)), (.ref b4), (.ref b4)])) t
    exact kt
  refine own_callC X4 hx hZ hown e4 rfl (hw _ (List.mem_of_getElem? (i := 5) rfl)) (hw _ (List.mem_of_getElem? (i := 6) rfl)) (hw _ (List.mem_of_getElem? (i := 4) rfl)) (hw _ (List.mem_of_getElem? (i := 7) rfl)) (by decide) (rm1 l Z aw hw b4 ((fv 0).toInt32) (fv 1) (fv 2) (fv 3) (fv 4) (fv 5) (fv 6) (fv 7) (fv 8) (fv 9) (fv 10) (fv 11) (fv 12) h4 n0 ZE4 A4 K_b4 g_b4) (g := (mkF m 109 #[.val (.int p0), .val (.int p1), .val (.long q2), .second, .val (.long q3), .second, .val (.int va), .val (.int vb), .val (.ref b1), .unset, .unset, .unset] [(.long (fv 12)), (.long (fv 11)), (.long (fv 10)), (.long (fv 9)), (.long (fv 8)), (.long (fv 7)), (.long (fv 6)), (.long (fv 5)), (.long (fv 4)), (.long (fv 3)), (.long (fv 2)), (.long (fv 1)), (.int ((fv 0).toInt32)), (.ref b4), (.ref b4)])) rfl (by rw [hml]; rfl) (argsL := [(.int ((fv 0).toInt32)), (.long (fv 1)), (.long (fv 2)), (.long (fv 3)), (.long (fv 4)), (.long (fv 5)), (.long (fv 6)), (.long (fv 7)), (.long (fv 8)), (.long (fv 9)), (.long (fv 10)), (.long (fv 11)), (.long (fv 12))]) (rest := [(.ref b4)]) (lenOf pd_1 rfl) rfl rfl (W := 1) (by show 2 * 0 + _ ≤ _; exact Nat.le_of_eq rfl) (hb hby at_109) (by decide) (by decide) (by decide) (by decide) ?_
  rintro _ T5 L5 X5 ⟨rfl, Nq5, Kq5, Pq5_0, Pq5_1, Pq5_2, Pq5_3, Pq5_4, Pq5_5, Pq5_6, Pq5_7, Pq5_8, Pq5_9, Pq5_10, Pq5_11, Pq5_12, Pq5_13⟩
  have N5 := Fr.app N3 Nq5
  replace B3 := (B3.keep Kq5 (ninS (ne_b1_b4) nin0))
  replace A4 := (A4.keep Kq5)
  replace K_b4 := own_K_keep K_b4 Kq5
  have ZKq5 : n0 ≤ T5.heap.size := Nat.le_trans ZE4 Kq5.1
  have KKKq5 := KKE4.trans Kq5 ((allS (Or.inr sz_b4) all0))
  refine own_go (T' := T5) (f' := (mkF m 117 #[.val (.int p0), .val (.int p1), .val (.long q2), .second, .val (.long q3), .second, .val (.int va), .val (.int vb), .val (.ref b1), .val (.ref b4), .unset, .unset] [(.long q2), (.int va)])) (fun t kt => ?_) ?_
  · show Steps p.tables e below (T5.setTop (mkF m 112 #[.val (.int p0), .val (.int p1), .val (.long q2), .second, .val (.long q3), .second, .val (.int va), .val (.int vb), .val (.ref b1), .unset, .unset, .unset] [(.ref b4)])) t
    refine XS.astore X5.here hx rfl (hb hby at_112) rfl rfl (l' := #[.val (.int p0), .val (.int p1), .val (.long q2), .second, .val (.long q3), .second, .val (.int va), .val (.int vb), .val (.ref b1), .val (.ref b4), .unset, .unset]) rfl ?_
    show Steps p.tables e below (T5.setTop (mkF m 114 #[.val (.int p0), .val (.int p1), .val (.long q2), .second, .val (.long q3), .second, .val (.int va), .val (.int vb), .val (.ref b1), .val (.ref b4), .unset, .unset] [])) t
    refine XS.iload X5.here hx rfl (hb hby at_114) rfl ?_
    show Steps p.tables e below (T5.setTop (mkF m 116 #[.val (.int p0), .val (.int p1), .val (.long q2), .second, .val (.long q3), .second, .val (.int va), .val (.int vb), .val (.ref b1), .val (.ref b4), .unset, .unset] [(.int va)])) t
    refine XS.lloadN X5.here hx rfl (hb hby at_116) rfl ?_
    show Steps p.tables e below (T5.setTop (mkF m 117 #[.val (.int p0), .val (.int p1), .val (.long q2), .second, .val (.long q3), .second, .val (.int va), .val (.int vb), .val (.ref b1), .val (.ref b4), .unset, .unset] [(.long q2), (.int va)])) t
    exact kt
  refine own_callSp X5 hx hZ hown rfl (hw _ (List.mem_of_getElem? (i := 42) rfl)) (hw _ (List.mem_of_getElem? (i := 43) rfl)) (hw _ (List.mem_of_getElem? (i := 44) rfl)) (hw _ (List.mem_of_getElem? (i := 45) rfl)) (by decide) (rm4 l Z aw hw va q2 T5.heap n0 ZKq5) (g := (mkF m 117 #[.val (.int p0), .val (.int p1), .val (.long q2), .second, .val (.long q3), .second, .val (.int va), .val (.int vb), .val (.ref b1), .val (.ref b4), .unset, .unset] [(.long q2), (.int va)])) rfl (by rw [hml]; rfl) (argsL := [(.int va), (.long q2)]) (rest := []) (lenOf pd_2 rfl) rfl rfl (W := 0) (by show 2 * 0 + _ ≤ _; exact Nat.le_of_eq rfl) (hb hby at_117) (by decide) (by decide) (by decide) (by decide) ?_
  intro T6 X6 e6
  refine own_go (T' := T6) (f' := (mkF m 124 #[.val (.int p0), .val (.int p1), .val (.long q2), .second, .val (.long q3), .second, .val (.int va), .val (.int vb), .val (.ref b1), .val (.ref b4), .unset, .unset] [(.long q3), (.int vb), (.long (own_con va q2))])) (fun t kt => ?_) ?_
  · show Steps p.tables e below (T6.setTop (mkF m 120 #[.val (.int p0), .val (.int p1), .val (.long q2), .second, .val (.long q3), .second, .val (.int va), .val (.int vb), .val (.ref b1), .val (.ref b4), .unset, .unset] [(.long (own_con va q2))])) t
    refine XS.iload X6.here hx rfl (hb hby at_120) rfl ?_
    show Steps p.tables e below (T6.setTop (mkF m 122 #[.val (.int p0), .val (.int p1), .val (.long q2), .second, .val (.long q3), .second, .val (.int va), .val (.int vb), .val (.ref b1), .val (.ref b4), .unset, .unset] [(.int vb), (.long (own_con va q2))])) t
    refine XS.lload X6.here hx rfl (hb hby at_122) rfl ?_
    show Steps p.tables e below (T6.setTop (mkF m 124 #[.val (.int p0), .val (.int p1), .val (.long q2), .second, .val (.long q3), .second, .val (.int va), .val (.int vb), .val (.ref b1), .val (.ref b4), .unset, .unset] [(.long q3), (.int vb), (.long (own_con va q2))])) t
    exact kt
  refine own_callSp X6 hx hZ hown e6 (hw _ (List.mem_of_getElem? (i := 42) rfl)) (hw _ (List.mem_of_getElem? (i := 43) rfl)) (hw _ (List.mem_of_getElem? (i := 44) rfl)) (hw _ (List.mem_of_getElem? (i := 45) rfl)) (by decide) (rm4 l Z aw hw vb q3 T5.heap n0 ZKq5) (g := (mkF m 124 #[.val (.int p0), .val (.int p1), .val (.long q2), .second, .val (.long q3), .second, .val (.int va), .val (.int vb), .val (.ref b1), .val (.ref b4), .unset, .unset] [(.long q3), (.int vb), (.long (own_con va q2))])) rfl (by rw [hml]; rfl) (argsL := [(.int vb), (.long q3)]) (rest := [(.long (own_con va q2))]) (lenOf pd_2 rfl) rfl rfl (W := 2) (by show 2 * 0 + _ ≤ _; exact Nat.le_of_eq rfl) (hb hby at_124) (by decide) (by decide) (by decide) (by decide) ?_
  intro T7 X7 e7
  refine own_go (T' := T7) (f' := (mkF m 132 #[.val (.int p0), .val (.int p1), .val (.long q2), .second, .val (.long q3), .second, .val (.int va), .val (.int vb), .val (.ref b1), .val (.ref b4), .val (.long ((own_con va q2) + (own_con vb q3))), .second] [(.ref b4)])) (fun t kt => ?_) ?_
  · show Steps p.tables e below (T7.setTop (mkF m 127 #[.val (.int p0), .val (.int p1), .val (.long q2), .second, .val (.long q3), .second, .val (.int va), .val (.int vb), .val (.ref b1), .val (.ref b4), .unset, .unset] [(.long (own_con vb q3)), (.long (own_con va q2))])) t
    refine XS.ladd X7.here hx rfl (hb hby at_127) rfl ?_
    show Steps p.tables e below (T7.setTop (mkF m 128 #[.val (.int p0), .val (.int p1), .val (.long q2), .second, .val (.long q3), .second, .val (.int va), .val (.int vb), .val (.ref b1), .val (.ref b4), .unset, .unset] [(.long ((own_con va q2) + (own_con vb q3)))])) t
    refine XS.lstore X7.here hx rfl (hb hby at_128) rfl (l' := #[.val (.int p0), .val (.int p1), .val (.long q2), .second, .val (.long q3), .second, .val (.int va), .val (.int vb), .val (.ref b1), .val (.ref b4), .val (.long ((own_con va q2) + (own_con vb q3))), .second]) rfl ?_
    show Steps p.tables e below (T7.setTop (mkF m 130 #[.val (.int p0), .val (.int p1), .val (.long q2), .second, .val (.long q3), .second, .val (.int va), .val (.int vb), .val (.ref b1), .val (.ref b4), .val (.long ((own_con va q2) + (own_con vb q3))), .second] [])) t
    refine XS.aload X7.here hx rfl (hb hby at_130) rfl rfl ?_
    show Steps p.tables e below (T7.setTop (mkF m 132 #[.val (.int p0), .val (.int p1), .val (.long q2), .second, .val (.long q3), .second, .val (.int va), .val (.int vb), .val (.ref b1), .val (.ref b4), .val (.long ((own_con va q2) + (own_con vb q3))), .second] [(.ref b4)])) t
    exact kt
  refine own_callVp X7 hx hZ hown e7 (hw _ (List.mem_of_getElem? (i := 46) rfl)) (hw _ (List.mem_of_getElem? (i := 47) rfl)) (notFace_of_selects (args := #[]) (mvT hZ (hw _ (List.mem_of_getElem? (i := 49) rfl)))) (hw _ (List.mem_of_getElem? (i := 49) rfl)) (hw _ (List.mem_of_getElem? (i := 48) rfl)) (hw _ (List.mem_of_getElem? (i := 4) rfl)) (hw _ (List.mem_of_getElem? (i := 50) rfl)) (by decide) (rm5 l Z aw hw b4 (fv 6) (fv 7) (fv 8) (fv 9) (fv 10) (fv 11) (fv 12) T5.heap n0 ZKq5 Pq5_7 Pq5_8 Pq5_9 Pq5_10 Pq5_11 Pq5_12 Pq5_13) Pq5_0 (g := (mkF m 132 #[.val (.int p0), .val (.int p1), .val (.long q2), .second, .val (.long q3), .second, .val (.int va), .val (.int vb), .val (.ref b1), .val (.ref b4), .val (.long ((own_con va q2) + (own_con vb q3))), .second] [(.ref b4)])) rfl (by rw [hml]; rfl) (argsL := []) (rest := []) (lenOf pd_3 rfl) rfl rfl (W := 0) (by show 2 * 0 + _ ≤ _; exact Nat.le_of_eq rfl) (hb hby at_132) (by decide) (by decide) (by decide) (by decide) ?_
  intro T8 X8 e8
  refine own_go (T' := T8) (f' := (mkF m 146 #[.val (.int p0), .val (.int p1), .val (.long q2), .second, .val (.long q3), .second, .val (.int va), .val (.int vb), .val (.ref b1), .val (.ref b4), .val (.long ((own_con va q2) + (own_con vb q3))), .second] [(.int (1 : Int32))])) (fun t kt => ?_) ?_
  · show Steps p.tables e below (T8.setTop (mkF m 135 #[.val (.int p0), .val (.int p1), .val (.long q2), .second, .val (.long q3), .second, .val (.int va), .val (.int vb), .val (.ref b1), .val (.ref b4), .val (.long ((own_con va q2) + (own_con vb q3))), .second] [(.long (((((((fv 6) + (fv 7)) + (fv 8)) + (fv 9)) + (fv 10)) + (fv 11)) + (fv 12)))])) t
    refine XS.lload X8.here hx rfl (hb hby at_135) rfl ?_
    show Steps p.tables e below (T8.setTop (mkF m 137 #[.val (.int p0), .val (.int p1), .val (.long q2), .second, .val (.long q3), .second, .val (.int va), .val (.int vb), .val (.ref b1), .val (.ref b4), .val (.long ((own_con va q2) + (own_con vb q3))), .second] [(.long ((own_con va q2) + (own_con vb q3))), (.long (((((((fv 6) + (fv 7)) + (fv 8)) + (fv 9)) + (fv 10)) + (fv 11)) + (fv 12)))])) t
    refine XS.lcmp X8.here hx rfl (hb hby at_137) rfl ?_
    show Steps p.tables e below (T8.setTop (mkF m 138 #[.val (.int p0), .val (.int p1), .val (.long q2), .second, .val (.long q3), .second, .val (.int va), .val (.int vb), .val (.ref b1), .val (.ref b4), .val (.long ((own_con va q2) + (own_con vb q3))), .second] [(.int (lcmpW (((((((fv 6) + (fv 7)) + (fv 8)) + (fv 9)) + (fv 10)) + (fv 11)) + (fv 12)) ((own_con va q2) + (own_con vb q3))))])) t
    refine XS.ifNo X8.here hx rfl (hb hby at_138) rfl (own_lN_ne (show (((((((fv 6) + (fv 7)) + (fv 8)) + (fv 9)) + (fv 10)) + (fv 11)) + (fv 12)) = ((own_con va q2) + (own_con vb q3)) from own_pen hva hvb hfv)) ?_
    show Steps p.tables e below (T8.setTop (mkF m 141 #[.val (.int p0), .val (.int p1), .val (.long q2), .second, .val (.long q3), .second, .val (.int va), .val (.int vb), .val (.ref b1), .val (.ref b4), .val (.long ((own_con va q2) + (own_con vb q3))), .second] [])) t
    refine XS.iconst X8.here hx rfl (hb hby at_141) ?_
    show Steps p.tables e below (T8.setTop (mkF m 142 #[.val (.int p0), .val (.int p1), .val (.long q2), .second, .val (.long q3), .second, .val (.int va), .val (.int vb), .val (.ref b1), .val (.ref b4), .val (.long ((own_con va q2) + (own_con vb q3))), .second] [(.int (1 : Int32))])) t
    refine XS.goto X8.here hx rfl (pc0 := 142) (pc' := 146) rfl (hb hby at_142) (by decide) (by decide) ?_
    show Steps p.tables e below (T8.setTop (mkF m 146 #[.val (.int p0), .val (.int p1), .val (.long q2), .second, .val (.long q3), .second, .val (.int va), .val (.int vb), .val (.ref b1), .val (.ref b4), .val (.long ((own_con va q2) + (own_con vb q3))), .second] [(.int (1 : Int32))])) t
    exact kt
  exact own_retN X8 hP hx hlk e8 (t := .boolean) hret (by simp) (hb hby at_146) (by decide) (by decide) (z' := (1 : Int32)) rfl ⟨rfl, N5⟩
set_option maxRecDepth 65536 in
set_option maxHeartbeats 40000000 in
theorem comes_1 {Post : Tables → Env → Array Value → State → Outcome → State → Prop} (hpost : ∀ tb e args s v u, (limb_1_1.after args s (.returned v) u = true ∧ limb_1_2.after args s (.returned v) u = true ∧ True) → FrameEnd s (.returned v) u (Jvm.fieldLocs frame_1_writes args s ++ Jvm.arrayLocs frame_1_arrays args s ++ Jvm.staticLocs frame_1_statics s) 16 128 → Post tb e args s (.returned v) u) :
    ArmFor flags0 classFile x code maxLocals ret World_1 tables_1 room_1 Calls_1 rest_1 Pre_1 Post := by
  intro l hfl _ _ p e ha hc hk s m args below hf hA hF happ hP
  obtain ⟨hcalls, hrest, hpre⟩ := hP
  obtain ⟨-, -, -, hnamed, -, -, -, hat⟩ := (Spec.applies_iff hf).mp happ
  obtain ⟨hg, hn⟩ := and_e (Cond.before_iff.mp (show (Jvm.Cond.and given_1 narrow_1).before args s = true from hpre))
  obtain ⟨k1, k2⟩ := and_e hg
  obtain ⟨k3, k4⟩ := and_e k2
  obtain ⟨k5, k6⟩ := and_e k4
  obtain ⟨k7, k8⟩ := and_e k6
  obtain ⟨w0, w1, w2, w3, rfl⟩ : ∃ w0 w1 w2 w3 : Value, args = #[w0, w1, w2, w3] := by
    have hs : args.size = 4 := by simpa [Cond.value, given_1] using k1
    obtain ⟨L⟩ := args
    match L, hs with
    | [w0, w1, w2, w3], _ => exact ⟨w0, w1, w2, w3, rfl⟩
  have hw := fun d (hd : d ∈ tables_1) => atoms_spec (ws := Jvm.Cond.code x code maxLocals ret :: tables_1) hat d (List.mem_cons_of_mem _ hd)
  obtain ⟨i0, ei0⟩ := is_v k3
  obtain rfl : w0 = (.int i0) := Option.some.inj ei0
  obtain ⟨i1, ei1⟩ := is_v k5
  obtain rfl : w1 = (.int i1) := Option.some.inj ei1
  obtain ⟨i2, ei2⟩ := isL_v k7
  obtain rfl : w2 = (.long i2) := Option.some.inj ei2
  obtain ⟨i3, ei3⟩ := isL_v k8
  obtain rfl : w3 = (.long i3) := Option.some.inj ei3
  obtain ⟨n, o, h1, h2, h3, _, L, rfl, ⟨rfl, N⟩, hq⟩ := rm0 l s _ hw (ws := tables_1) i0 i1 i2 i3 s.heap s.heap.size (Nat.le_refl _)  p e ha hc hk s m _ below hf ((Spec.applies_iff_loose hf).mp happ).1 ⟨rfl, State.Warmed39.refl s, rfl⟩ trivial
  refine ⟨n, _, h1, h2, h3, hpost _ _ _ _ _ _ ⟨Cond.after_iff.mpr rfl, Cond.after_iff.mpr (eq_i res_at (Term.int_eval (1)) rfl), trivial⟩ ⟨hq.1, hq.2.1, (hq.2.2.sift fun y hy => Or.inr (N y hy)).mono (by decide) (by decide)⟩⟩
theorem main_1_1 : Claimed_1_1 := comes_1 fun _ _ _ _ _ _ h hF => ⟨h.1, hF⟩
theorem main_1_2 : Claimed_1_2 := comes_1 fun _ _ _ _ _ _ h hF => ⟨h.2.1, hF⟩
end Jvm.Pilot.@@N@@
namespace Jvm.Pilot.@@N@@
open Jvm Jvm.ClassFile Sem Op Lib Jvm.Free Jvm.Stand Jvm.Pilot.@@N@@.Jvm.D
/-! MADE BY PROGRAM (witnessworld.py) out of the Statement's table words and the real class files: 13 classes; the members and pool entries that the words name. The judged class is class 1, her method 1. -/
namespace start1
open Jvm.ClassFile
def u (s : String) : CpInfo := .utf8 (stringToUtf16 s)
/-- a pool by its gaps: so many unusable entries, then the entry; so many at the end -/
def gap : Nat → List CpInfo → List CpInfo
  | 0, r => r
  | n + 1, r => .unusable :: gap n r
def poolList (es : List (Nat × CpInfo)) (last : Nat) : List CpInfo := es.foldr (fun e r => gap e.1 (e.2 :: r)) (gap last [])
def pool (es : List (Nat × CpInfo)) (last : Nat) : Array CpInfo := ⟨poolList es last⟩
def fileOf (pool : Array CpInfo) (this : Nat) (attrs : Array Attribute := #[]) (ms : Array MethodInfo := #[]) (fl : Nat := 33) (sup : Nat := 0) (ifs : Array Nat := #[]) (fds : Array FieldInfo := #[]) : ClassFile where
  minorVersion := 0
  majorVersion := 65
  constantPool := pool
  accessFlags := fl
  thisClass := this
  superClass := sup
  interfaces := ifs
  fields := fds
  methods := ms
  attributes := attrs
def plain (name : String) (sup : Option ClassId) : Class where
  name := name
  kind := .ordinary
  loader := none
  accessFlags := 33
  super := sup
  interfaces := #[]
  cf := none
  fields := #[]
  methods := #[]
  instanceTypes := #[]
  staticTypes := #[]
  resolved := #[]
  callSites := []
  init := .initialized
  statics := none
  mirror := none

def pool0 : Array CpInfo := pool [(5, u "<init>"), (0, u "()V"), (1, .class_ 10), (1, u "java/lang/Object")] 113

def k0c0 : Code := { maxStack := 0, maxLocals := 1, code := object_method_1_code, exceptionTable := #[], attributes := #[] }
def k0m0 : Method := { name := "<init>", desc := "()V", sig := { parameters := [], returnType := none }, accessFlags := 1, code := some k0c0 }
/-- java/lang/Object -/
def k0 : Class := { plain "java/lang/Object" none with
  accessFlags := 33
  interfaces := #[]
  cf := some (fileOf pool0 8 #[] #[{ accessFlags := 1, nameIndex := 5, descriptorIndex := 6, attributes := #[] }] 33 0 #[] #[])
  fields := #[]
  methods := #[k0m0]
  instanceTypes := #[]
  staticTypes := #[]
  resolved := Array.replicate 124 none
  statics := none }

def pool1 : Array CpInfo := pool [(2, .class_ 4), (1, u "java/lang/Object"), (0, u "<init>"), (0, u "()V"), (0, .integer 2147483647), (0, .class_ 9), (0, u "com/example/slotwise/slotwise/Itc2007Score"), (0, .methodref 8 11), (0, .nameAndType 5 12), (0, u "(IJJJJJJJJJJJJ)V"), (0, .methodref 14 15), (0, .class_ 16), (0, .nameAndType 17 18), (0, u "com/example/slotwise/slotwise/Itc2007ScorePenaltyPinLaw"), (0, u "contribution"), (0, u "(IJ)J"), (0, .methodref 8 20), (0, .nameAndType 21 22), (0, u "penalty"), (0, u "()J"), (2, u "law"), (0, u "(IIJJ)Z")] 5

def k1m0 : Method := { name := "<init>", desc := "()V", sig := { parameters := [], returnType := none }, accessFlags := 1, code := none }
def k1c1 : Code := { maxStack := 27, maxLocals := 12, code := code, exceptionTable := #[], attributes := #[] }
def k1m1 : Method := { name := "law", desc := "(IIJJ)Z", sig := { parameters := [.int, .int, .long, .long], returnType := some .boolean }, accessFlags := 9, code := some k1c1 }
def k1c2 : Code := { maxStack := 2, maxLocals := 3, code := method_3_code, exceptionTable := #[], attributes := #[] }
def k1m2 : Method := { name := "contribution", desc := "(IJ)J", sig := { parameters := [.int, .long], returnType := some .long }, accessFlags := 10, code := some k1c2 }
/-- com/example/slotwise/slotwise/Itc2007ScorePenaltyPinLaw -/
def k1 : Class := { plain "com/example/slotwise/slotwise/Itc2007ScorePenaltyPinLaw" (some 0) with
  accessFlags := 49
  interfaces := #[]
  cf := some (fileOf pool1 14 #[] #[{ accessFlags := 1, nameIndex := 5, descriptorIndex := 6, attributes := #[] }, { accessFlags := 9, nameIndex := 25, descriptorIndex := 26, attributes := #[] }, { accessFlags := 10, nameIndex := 17, descriptorIndex := 18, attributes := #[] }] 49 2 #[] #[])
  fields := #[]
  methods := #[k1m0, k1m1, k1m2]
  instanceTypes := #[]
  staticTypes := #[]
  resolved := Array.replicate 32 none
  statics := none }

def pool2 : Array CpInfo := pool [(1, .methodref 2 3), (0, .class_ 4), (0, .nameAndType 5 6), (0, u "java/lang/Object"), (0, u "<init>"), (0, u "()V"), (0, .class_ 8), (0, u "java/lang/Record")] 13

def k2c0 : Code := { maxStack := 1, maxLocals := 1, code := jdk_30_method_1_code, exceptionTable := #[], attributes := #[] }
def k2m0 : Method := { name := "<init>", desc := "()V", sig := { parameters := [], returnType := none }, accessFlags := 4, code := some k2c0 }
/-- java/lang/Record -/
def k2 : Class := { plain "java/lang/Record" (some 0) with
  accessFlags := 1057
  interfaces := #[]
  cf := some (fileOf pool2 7 #[] #[{ accessFlags := 4, nameIndex := 5, descriptorIndex := 6, attributes := #[] }] 1057 2 #[] #[])
  fields := #[]
  methods := #[k2m0]
  instanceTypes := #[]
  staticTypes := #[]
  resolved := Array.replicate 22 none
  statics := none }

def pool3 : Array CpInfo := pool [(1, .class_ 2), (0, u "com/example/slotwise/slotwise/Score"), (0, .class_ 4), (0, u "java/lang/Object")] 10

/-- com/example/slotwise/slotwise/Score -/
def k3 : Class := { plain "com/example/slotwise/slotwise/Score" (some 0) with
  accessFlags := 1536
  interfaces := #[]
  cf := some (fileOf pool3 1 #[] #[] 1536 3 #[] #[])
  fields := #[]
  methods := #[]
  instanceTypes := #[]
  staticTypes := #[]
  resolved := Array.replicate 15 none
  statics := none }

def pool4 : Array CpInfo := pool [(1, .methodref 2 3), (0, .class_ 4), (0, .nameAndType 5 6), (0, u "java/lang/Record"), (0, u "<init>"), (0, u "()V"), (0, .fieldref 8 9), (0, .class_ 10), (0, .nameAndType 11 12), (0, u "com/example/slotwise/slotwise/Itc2007Score"), (0, u "unplaced"), (0, u "I"), (0, .fieldref 8 14), (0, .nameAndType 15 16), (0, u "conflicts"), (0, u "J"), (0, .fieldref 8 18), (0, .nameAndType 19 16), (0, u "roomOccupancy"), (0, .fieldref 8 21), (0, .nameAndType 22 16), (0, u "periodUtilisation"), (0, .fieldref 8 24), (0, .nameAndType 25 16), (0, u "periodRelated"), (0, .fieldref 8 27), (0, .nameAndType 28 16), (0, u "roomRelated"), (0, .fieldref 8 30), (0, .nameAndType 31 16), (0, u "twoInARow"), (0, .fieldref 8 33), (0, .nameAndType 34 16), (0, u "twoInADay"), (0, .fieldref 8 36), (0, .nameAndType 37 16), (0, u "periodSpread"), (0, .fieldref 8 39), (0, .nameAndType 40 16), (0, u "mixedDurations"), (0, .fieldref 8 42), (0, .nameAndType 43 16), (0, u "frontLoad"), (0, .fieldref 8 45), (0, .nameAndType 46 16), (0, u "roomPenalty"), (0, .fieldref 8 48), (0, .nameAndType 49 16), (0, u "periodPenalty"), (46, .class_ 97), (0, u "com/example/slotwise/slotwise/Itc2007Score$Scoring"), (8, u "()J"), (24, u "(IJJJJJJJJJJJJ)V"), (32, u "penalty"), (83, .class_ 249), (0, u "com/example/slotwise/slotwise/Score"), (20, .class_ 271), (0, u "com/example/slotwise/slotwise/Itc2007Score$PairCost")] 91

def k4c0 : Code := { maxStack := 3, maxLocals := 26, code := prog_21_method_1_code, exceptionTable := #[], attributes := #[] }
def k4m0 : Method := { name := "<init>", desc := "(IJJJJJJJJJJJJ)V", sig := { parameters := [.int, .long, .long, .long, .long, .long, .long, .long, .long, .long, .long, .long, .long], returnType := none }, accessFlags := 0, code := some k4c0 }
def k4c1 : Code := { maxStack := 4, maxLocals := 1, code := prog_21_method_4_code, exceptionTable := #[], attributes := #[] }
def k4m1 : Method := { name := "penalty", desc := "()J", sig := { parameters := [], returnType := some .long }, accessFlags := 1, code := some k4c1 }
/-- com/example/slotwise/slotwise/Itc2007Score -/
def k4 : Class := { plain "com/example/slotwise/slotwise/Itc2007Score" (some 2) with
  accessFlags := 48
  interfaces := #[3]
  cf := some (fileOf pool4 8 #[.nestMembers #[96, 270]] #[{ accessFlags := 0, nameIndex := 5, descriptorIndex := 131, attributes := #[] }, { accessFlags := 1, nameIndex := 164, descriptorIndex := 106, attributes := #[] }] 48 2 #[248] #[{ accessFlags := 18, nameIndex := 11, descriptorIndex := 12, attributes := #[] }, { accessFlags := 18, nameIndex := 15, descriptorIndex := 16, attributes := #[] }, { accessFlags := 18, nameIndex := 19, descriptorIndex := 16, attributes := #[] }, { accessFlags := 18, nameIndex := 22, descriptorIndex := 16, attributes := #[] }, { accessFlags := 18, nameIndex := 25, descriptorIndex := 16, attributes := #[] }, { accessFlags := 18, nameIndex := 28, descriptorIndex := 16, attributes := #[] }, { accessFlags := 18, nameIndex := 31, descriptorIndex := 16, attributes := #[] }, { accessFlags := 18, nameIndex := 34, descriptorIndex := 16, attributes := #[] }, { accessFlags := 18, nameIndex := 37, descriptorIndex := 16, attributes := #[] }, { accessFlags := 18, nameIndex := 40, descriptorIndex := 16, attributes := #[] }, { accessFlags := 18, nameIndex := 43, descriptorIndex := 16, attributes := #[] }, { accessFlags := 18, nameIndex := 46, descriptorIndex := 16, attributes := #[] }, { accessFlags := 18, nameIndex := 49, descriptorIndex := 16, attributes := #[] }])
  fields := #[{ name := "unplaced", type := .int, accessFlags := 18, slot := 0, constantValue := 0 }, { name := "conflicts", type := .long, accessFlags := 18, slot := 1, constantValue := 0 }, { name := "roomOccupancy", type := .long, accessFlags := 18, slot := 2, constantValue := 0 }, { name := "periodUtilisation", type := .long, accessFlags := 18, slot := 3, constantValue := 0 }, { name := "periodRelated", type := .long, accessFlags := 18, slot := 4, constantValue := 0 }, { name := "roomRelated", type := .long, accessFlags := 18, slot := 5, constantValue := 0 }, { name := "twoInARow", type := .long, accessFlags := 18, slot := 6, constantValue := 0 }, { name := "twoInADay", type := .long, accessFlags := 18, slot := 7, constantValue := 0 }, { name := "periodSpread", type := .long, accessFlags := 18, slot := 8, constantValue := 0 }, { name := "mixedDurations", type := .long, accessFlags := 18, slot := 9, constantValue := 0 }, { name := "frontLoad", type := .long, accessFlags := 18, slot := 10, constantValue := 0 }, { name := "roomPenalty", type := .long, accessFlags := 18, slot := 11, constantValue := 0 }, { name := "periodPenalty", type := .long, accessFlags := 18, slot := 12, constantValue := 0 }]
  methods := #[k4m0, k4m1]
  instanceTypes := #[.int, .long, .long, .long, .long, .long, .long, .long, .long, .long, .long, .long, .long]
  staticTypes := #[]
  resolved := Array.replicate 363 none
  statics := none }

def pool5 : Array CpInfo := pool [(1, u "java/lang/Cloneable"), (0, .class_ 1), (0, u "java/lang/Object"), (0, .class_ 3)] 3

/-- java/lang/Cloneable -/
def k5 : Class := { plain "java/lang/Cloneable" (some 0) with
  accessFlags := 1537
  interfaces := #[]
  cf := some (fileOf pool5 2 #[] #[] 1537 4 #[] #[])
  fields := #[]
  methods := #[]
  instanceTypes := #[]
  staticTypes := #[]
  resolved := Array.replicate 8 none
  statics := none }

def pool6 : Array CpInfo := pool [(1, u "java/io/Serializable"), (0, .class_ 1), (0, u "java/lang/Object"), (0, .class_ 3)] 3

/-- java/io/Serializable -/
def k6 : Class := { plain "java/io/Serializable" (some 0) with
  accessFlags := 1537
  interfaces := #[]
  cf := some (fileOf pool6 2 #[] #[] 1537 4 #[] #[])
  fields := #[]
  methods := #[]
  instanceTypes := #[]
  staticTypes := #[]
  resolved := Array.replicate 8 none
  statics := none }

/-- the primitive byte -/
def k7 : Class := { plain "byte" none with kind := .primitive 'B', accessFlags := 0x411 }
/-- [B -/
def k8 : Class := { plain "[B" (some 0) with kind := .array 7 .byte, interfaces := #[5, 6], accessFlags := 1041 }

/-- the primitive int -/
def k9 : Class := { plain "int" none with kind := .primitive 'I', accessFlags := 0x411 }
/-- [I -/
def k10 : Class := { plain "[I" (some 0) with kind := .array 9 .int, interfaces := #[5, 6], accessFlags := 1041 }

/-- the primitive long -/
def k11 : Class := { plain "long" none with kind := .primitive 'J', accessFlags := 0x411 }
/-- [J -/
def k12 : Class := { plain "[J" (some 0) with kind := .array 11 .long, interfaces := #[5, 6], accessFlags := 1041 }

def heap : Heap := #[]
def classes : Array Class := #[k0, k1, k2, k3, k4, k5, k6, k7, k8, k9, k10, k11, k12]
def interned : List (Array UInt16 × Addr) := []
def slotsUsed : Nat := 0
def theMethod : MethodId := ⟨1, 1⟩
def args0 : Array Value := #[.int 5, .int 6, .long 7, .long 8]
def aboutOver (below : List Frame) : State where
  vm := { classes := classes, interned := interned.toArray }
  heap := heap
  slotsUsed := slotsUsed
  threads := #[{ frames := .invoking theMethod args0 :: below }]
def below0 : List Frame := [.native { method := ⟨0, 0⟩, args := #[] }]
def about1 : State := aboutOver below0
def p0 : Program := .bare "" "" ""
def e0 : Env := launch0.env 0 0 0
theorem w_frames : about1.frames = Frame.invoking theMethod args0 :: below0 := rfl
set_option maxRecDepth 65536 in
theorem w_args : argsFit about1.vm theMethod args0 = true := by decide +kernel
set_option maxRecDepth 65536 in
theorem w_heap : heapFits about1 = true := by decide +kernel
set_option maxRecDepth 65536 in
theorem w_runnable : about1.curStatus? = some .runnable := by decide +kernel
set_option maxRecDepth 65536 in
theorem w_alone : about1.alone = true := by decide +kernel
set_option maxRecDepth 65536 in
theorem w_named : about1.methodNamed? x = some theMethod := by decide +kernel
set_option maxRecDepth 65536 in
theorem w_hears : about1.hears theMethod below0 = true := by decide +kernel
set_option maxRecDepth 65536 in
theorem w_ripe : about1.ripe theMethod args0 below0 = true := by decide +kernel
theorem w_running : about1.status = .running := rfl
set_option maxRecDepth 65536 in
theorem w_room : about1.hasRoom e0.platform room_1 = true :=
  launch0.hasRoom_least _ room_1 (by decide +kernel) (by decide +kernel) (by decide +kernel) (by decide +kernel) (by decide +kernel) (by decide +kernel)
theorem allAtoms_all (ts : List Jvm.Cond) (a : Array Jvm.Value) (st : Jvm.State) : (allAtoms ts).before a st = ts.all (fun c => c.before a st) := by
  induction ts with
  | nil => rfl
  | cons c t ih =>
    show (Jvm.Cond.and c (allAtoms t)).before a st = _
    rw [Jvm.Cond.before_and, ih, List.all_cons]
def words1 : List Jvm.Cond := Jvm.Cond.code x code maxLocals ret :: tables_1
/-- a 'code' word, met by the world's own term for the bytes: nothing is compared byte by byte -/
theorem code_word {y : MethodName} {bytes : ByteArray} {mx : Nat} {rt : Option FieldType} {a : Array Value} {s : State} {m : MethodId} {meth : Method} {c : Code} (h1 : s.methodNamed? y = some m) (h2 : s.vm.method? m = some meth) (h3 : meth.code = some c) (h4 : c.code = bytes)
    (h5 : (c.maxLocals == mx && c.exceptionTable.isEmpty && decide (c.maxStack ≤ mostOperands) && decide (meth.sig.returnType = rt) && !meth.locks && decide (parseMethodDescriptor y.desc = some meth.sig)) = true) : (Jvm.Cond.code y bytes mx rt).before a s = true := by
  simp only [Bool.and_eq_true, beq_iff_eq, Bool.not_eq_true', decide_eq_true_eq] at h5
  obtain ⟨⟨⟨⟨⟨g1, g2⟩, g3⟩, g4⟩, g5⟩, g6⟩ := h5
  simp [Cond.before, Cond.holds, Cond.value, h1, h2, h3, h4, g1, g2, g3, g4, g5, g6]
def isCode : Jvm.Cond → Bool
  | .code _ _ _ _ => true
  | _ => false
theorem all_split {L : List Jvm.Cond} {P : Jvm.Cond → Bool} (h1 : L.all (fun c => isCode c || P c) = true) (h2 : ∀ c ∈ L.filter isCode, P c = true) : L.all P = true := by
  refine List.all_eq_true.mpr fun c hc => ?_
  have h := List.all_eq_true.mp h1 c hc
  rcases Bool.eq_false_or_eq_true (isCode c) with hi | hi
  · exact h2 c (List.mem_filter.mpr ⟨hc, hi⟩)
  · simpa [hi] using h
set_option maxRecDepth 65536 in
theorem w_c0 : (Jvm.Cond.code x code maxLocals ret).before args0 about1 = true := code_word (m := ⟨1, 1⟩) (meth := k1m1) (c := k1c1) (by decide +kernel) rfl rfl rfl (by decide +kernel)
set_option maxRecDepth 65536 in
theorem w_c1 : (Jvm.Cond.code ({ cls := "com/example/slotwise/slotwise/Itc2007Score", name := "<init>", desc := "(IJJJJJJJJJJJJ)V" } : Jvm.MethodName) prog_21_method_1_code (26 : Nat) (Option.none : Option Jvm.ClassFile.FieldType)).before args0 about1 = true := code_word (m := ⟨4, 0⟩) (meth := k4m0) (c := k4c0) (by decide +kernel) rfl rfl rfl (by decide +kernel)
set_option maxRecDepth 65536 in
theorem w_c2 : (Jvm.Cond.code ({ cls := "java/lang/Record", name := "<init>", desc := "()V" } : Jvm.MethodName) jdk_30_method_1_code (1 : Nat) (Option.none : Option Jvm.ClassFile.FieldType)).before args0 about1 = true := code_word (m := ⟨2, 0⟩) (meth := k2m0) (c := k2c0) (by decide +kernel) rfl rfl rfl (by decide +kernel)
set_option maxRecDepth 65536 in
theorem w_c3 : (Jvm.Cond.code ({ cls := "java/lang/Object", name := "<init>", desc := "()V" } : Jvm.MethodName) object_method_1_code (1 : Nat) (Option.none : Option Jvm.ClassFile.FieldType)).before args0 about1 = true := code_word (m := ⟨0, 0⟩) (meth := k0m0) (c := k0c0) (by decide +kernel) rfl rfl rfl (by decide +kernel)
set_option maxRecDepth 65536 in
theorem w_c4 : (Jvm.Cond.code ({ cls := "com/example/slotwise/slotwise/Itc2007ScorePenaltyPinLaw", name := "contribution", desc := "(IJ)J" } : Jvm.MethodName) method_3_code (3 : Nat) (Option.some Jvm.ClassFile.FieldType.long)).before args0 about1 = true := code_word (m := ⟨1, 2⟩) (meth := k1m2) (c := k1c2) (by decide +kernel) rfl rfl rfl (by decide +kernel)
set_option maxRecDepth 65536 in
theorem w_c5 : (Jvm.Cond.code ({ cls := "com/example/slotwise/slotwise/Itc2007Score", name := "penalty", desc := "()J" } : Jvm.MethodName) prog_21_method_4_code (1 : Nat) (Option.some Jvm.ClassFile.FieldType.long)).before args0 about1 = true := code_word (m := ⟨4, 1⟩) (meth := k4m1) (c := k4c1) (by decide +kernel) rfl rfl rfl (by decide +kernel)
def codes1 : List Jvm.Cond := [Jvm.Cond.code x code maxLocals ret, Jvm.Cond.code ({ cls := "com/example/slotwise/slotwise/Itc2007Score", name := "<init>", desc := "(IJJJJJJJJJJJJ)V" } : Jvm.MethodName) prog_21_method_1_code (26 : Nat) (Option.none : Option Jvm.ClassFile.FieldType), Jvm.Cond.code ({ cls := "java/lang/Record", name := "<init>", desc := "()V" } : Jvm.MethodName) jdk_30_method_1_code (1 : Nat) (Option.none : Option Jvm.ClassFile.FieldType), Jvm.Cond.code ({ cls := "java/lang/Object", name := "<init>", desc := "()V" } : Jvm.MethodName) object_method_1_code (1 : Nat) (Option.none : Option Jvm.ClassFile.FieldType), Jvm.Cond.code ({ cls := "com/example/slotwise/slotwise/Itc2007ScorePenaltyPinLaw", name := "contribution", desc := "(IJ)J" } : Jvm.MethodName) method_3_code (3 : Nat) (Option.some Jvm.ClassFile.FieldType.long), Jvm.Cond.code ({ cls := "com/example/slotwise/slotwise/Itc2007Score", name := "penalty", desc := "()J" } : Jvm.MethodName) prog_21_method_4_code (1 : Nat) (Option.some Jvm.ClassFile.FieldType.long)]
set_option maxRecDepth 65536 in
theorem codes_eq : words1.filter isCode = codes1 := rfl
theorem w_codes : ∀ c ∈ words1.filter isCode, c.before args0 about1 = true := by
  rw [codes_eq]
  intro c hc
  simp only [codes1, List.mem_cons, List.not_mem_nil, or_false] at hc
  rcases hc with rfl | rfl | rfl | rfl | rfl | rfl
  · exact w_c0
  · exact w_c1
  · exact w_c2
  · exact w_c3
  · exact w_c4
  · exact w_c5
set_option maxRecDepth 65536 in
theorem w_t1 : (words1.take 24).all (fun c => isCode c || c.before args0 about1) = true := by decide +kernel
set_option maxRecDepth 65536 in
theorem w_t2 : ((words1.drop 24).take 24).all (fun c => isCode c || c.before args0 about1) = true := by decide +kernel
set_option maxRecDepth 65536 in
theorem w_t3 : ((words1.drop 24).drop 24).all (fun c => isCode c || c.before args0 about1) = true := by decide +kernel
theorem w_tables : (allAtoms (Jvm.Cond.code x code maxLocals ret :: tables_1)).before args0 about1 = true := by
  rw [allAtoms_all]
  show words1.all (fun c => c.before args0 about1) = true
  refine all_split ?_ w_codes
  rw [← List.take_append_drop 24 words1, List.all_append, w_t1, ← List.take_append_drop 24 (words1.drop 24), List.all_append, w_t2, w_t3]
  rfl
set_option maxRecDepth 65536 in
theorem w_case : (Jvm.Cond.and given_1 narrow_1).before args0 about1 = true := by decide +kernel
theorem w_applies : (headSpec (Jvm.Cond.code x code maxLocals ret :: tables_1) room_1).applies x e0.platform about1 = true :=
  (Spec.applies_iff w_frames).mpr ⟨w_running, w_runnable, w_alone, w_named, w_hears, w_ripe, w_room, w_tables⟩
theorem atStart : AtStart classFile x code maxLocals ret World_1 tables_1 room_1 Calls_1 rest_1 Pre_1 launch0 p0 e0 about1 theMethod args0 below0 :=
  ⟨lists_1, trivial, launch0.admits_env _ _ _, launch0.least_env, fairChoices_fair.cas, fairChoices_fair.clock, w_frames, w_args, w_heap, w_applies, trivial, trivial, w_case⟩
end start1
theorem witness_1 : WitnessClaimed_1 := ⟨start1.p0, start1.e0, start1.about1, start1.theMethod, start1.args0, start1.below0, start1.atStart⟩
end Jvm.Pilot.@@N@@
