import JvmDerived
import JvmDerived.Pilot.@@N@@Statement
import JvmDerived.Pilot.@@N@@Code
set_option linter.unusedVariables false
set_option linter.unusedSimpArgs false
@@BLOCK:NumsL.lean.txt@@
namespace Jvm.Pilot.@@N@@
open Jvm Jvm.ClassFile Sem Op Lib Jvm.Free Jvm.Stand Jvm.LawKit Jvm.RoadKit Bundle Jvm.Pilot.@@N@@.Jvm.D
/-! own layer: the run from here ends, and Q holds of what it returned, of the heap and of the places written -/
def own_End (p : Program) (e : Env) (below : List Frame) (P : State → Outcome → Prop) (T : State) (f : JFrame) : Prop := ∃ s₂ o, Steps p.tables e below (T.setTop f) s₂ ∧ P s₂ o
def own_P (below : List Frame) (s : State) (Q : Option Value → Heap → List Loc → Prop) (kc ns : Nat) : State → Outcome → Prop := fun s₂ o => s₂.status = .running ∧ Ended s₂ below o ∧ ∃ v L, o = .returned v ∧ Q v s₂.heap L ∧ FrameEnd s o s₂ L kc ns
def own_Met (l : Launch) (Z : State) (y : MethodName) (bytes : ByteArray) (maxL : Nat) (ret : Option FieldType) (ws : List Jvm.Cond) (rm : Room) (as' : Array Value) (h : Heap) (Q : Option Value → Heap → List Loc → Prop) : Prop :=
  MetFree l y (head1 (Jvm.Cond.code y bytes maxL ret :: ws) rm) (fun a U => a = as' ∧ Z.Warmed39 U.vm ∧ U.heap = h) (fun _ _ _ _ _ => True) (fun _ U o U' => ∃ v L, o = .returned v ∧ Q v U'.heap L ∧ FrameEnd U o U' L rm.cells rm.slots)
section OwnSteps
variable {p : Program} {l : Launch} {e : Env} {R : Room} {s : State} {m : MethodId} {args : Array Value} {below : List Frame} {meth : Method} {c : Code} {T : State} {locs : List Loc} {cells slots : Nat} {P : State → Outcome → Prop} {Q : Option Value → Heap → List Loc → Prop} {kc ns : Nat} {Z : State} {a0 : Array Value} {h : Heap} {f : JFrame}
theorem own_go {T' : State} {f' : JFrame} (st : ∀ t, Steps p.tables e below (T'.setTop f') t → Steps p.tables e below (T.setTop f) t) (k : own_End p e below P T' f') : own_End p e below P T f := by
  obtain ⟨s₂, o, h1, h2⟩ := k
  exact ⟨s₂, o, st _ h1, h2⟩
theorem own_via {T' : State} {f' : JFrame} (st : Steps p.tables e below (T.setTop f) (T'.setTop f')) (k : own_End p e below P T' f') : own_End p e below P T f := own_go (fun _ h => st.trans h) k
theorem own_exf (h : False) : own_End p e below P T f := h.elim
theorem own_body {y : MethodName} {bytes : ByteArray} {maxL : Nat} {ret : Option FieldType} {ws : List Jvm.Cond} {rm : Room} {as' : Array Value} (hpl : plainFor y = true)
    (body : ∀ (p : Program) (e : Env) (s : State) (m : MethodId) (below : List Frame) (meth : Method) (c : Code) (s₁ : State), p.tables.exec = Jvm.exec → Z.Warmed39 s.vm → c.code = bytes → c.maxLocals = maxL → s.vm.findClass y.cls = some m.cls → meth.name = y.name → meth.sig.returnType = ret → meth.locks = false →
      Stand p l e rm s m as' below meth c s₁ [] 0 0 → s₁.heap = h → own_End p e below (own_P below s Q rm.cells rm.slots) s₁ (entryFrame m as' maxL)) : own_Met l Z y bytes maxL ret ws rm as' h Q := by
  refine MetFree.of_bodySF hpl hisR ?_
  intro p e s m args below meth c s₁ Bd hml0 hP hK
  obtain ⟨rfl, hZ, hh⟩ := hP
  exact body p e s m below meth c s₁ Bd.exec hZ Bd.bytes hml0 (findClass_of_methodNamed Bd.named) (name_of_methodNamed Bd.named Bd.method).1 Bd.returns Bd.notSynchronized (Stand.of_body Bd) (by rw [← hh, Bd.state]; rfl)
theorem own_cast {g g' : JFrame} (q : g = g') (k : own_End p e below P T g') : own_End p e below P T g := q ▸ k
theorem own_ret (X : Stand p l e R s m args below meth c T locs cells slots) (hP : P = own_P below s Q kc ns) (hlk : meth.locks = false) (eT : T.heap = h) {v : Option Value} (hv : meth.sig.returnType = none → v = none) (hk : cells ≤ kc) (hn : slots ≤ ns) (hQ : Q v h locs)
    (st : ∀ fs, (∀ (f : JFrame) (acts : List Action), f.method = m → f.locked = none → f.entered = [] → (doReturn e (T.setTop f) acts v).1 = T.setFrames fs) → Steps p.tables e below (T.setTop f) (T.setFrames fs)) : own_End p e below P T f := by
  obtain ⟨fs, hr, hrun, hended, hW, hsame⟩ := X.leave hv hlk
  subst hP
  exact ⟨_, _, st fs hr, hrun, hended, _, _, rfl, (eT ▸ hQ : Q v T.heap locs), ⟨_, rfl⟩, hW, hsame.mono hk hn⟩
theorem own_retV (X : Stand p l e R s m args below meth c T locs cells slots) (hP : P = own_P below s Q kc ns) (hx : p.tables.exec = Jvm.exec) (hlk : meth.locks = false) (eT : T.heap = h) {pc : Nat} {Ls : Array Slot} (hret : meth.sig.returnType = none) (hd : decode c.code pc = .ok (.return_, 1)) (hk : cells ≤ kc) (hn : slots ≤ ns) (hQ : Q none h locs) :
    own_End p e below P T (mkF m pc Ls []) := own_ret X hP hlk eT (fun _ => rfl) hk hn hQ fun _ hr => X.returnOut hx hret hd hr
theorem own_retI (X : Stand p l e R s m args below meth c T locs cells slots) (hP : P = own_P below s Q kc ns) (hx : p.tables.exec = Jvm.exec) (hlk : meth.locks = false) (eT : T.heap = h) {pc : Nat} {Ls : Array Slot} {z : Int32} {rest : List Value} (hret : meth.sig.returnType = some .int) (hd : decode c.code pc = .ok (.ireturn, 1)) (hk : cells ≤ kc) (hn : slots ≤ ns) (hQ : Q (some (.int z)) h locs) :
    own_End p e below P T (mkF m pc Ls (.int z :: rest)) := own_ret X hP hlk eT (fun h => by rw [hret] at h; cases h) hk hn hQ fun fs hr => retOut X hx hret rfl (Or.inl ⟨rfl, Or.inl rfl, z, rfl⟩) hd hr
theorem own_retN (X : Stand p l e R s m args below meth c T locs cells slots) (hP : P = own_P below s Q kc ns) (hx : p.tables.exec = Jvm.exec) (hlk : meth.locks = false) (eT : T.heap = h) {pc : Nat} {Ls : Array Slot} {z : Int32} {rest : List Value} {t : FieldType} (hret : meth.sig.returnType = some t) (ht : t = .boolean ∨ t = .byte ∨ t = .char ∨ t = .short) (hd : decode c.code pc = .ok (.ireturn, 1)) (hk : cells ≤ kc) (hn : slots ≤ ns) {z' : Int32} (hz : nar t z = z') (hQ : Q (some (.int z')) h locs) :
    own_End p e below P T (mkF m pc Ls (.int z :: rest)) := by
  subst hz
  exact own_ret X hP hlk eT (fun h => by rw [hret] at h; cases h) hk hn hQ fun fs hr => retN X hx hret ht hd hr
theorem own_retJ (X : Stand p l e R s m args below meth c T locs cells slots) (hP : P = own_P below s Q kc ns) (hx : p.tables.exec = Jvm.exec) (hlk : meth.locks = false) (eT : T.heap = h) {pc : Nat} {Ls : Array Slot} {z : Int64} {rest : List Value} (hret : meth.sig.returnType = some .long) (hd : decode c.code pc = .ok (.lreturn, 1)) (hk : cells ≤ kc) (hn : slots ≤ ns) (hQ : Q (some (.long z)) h locs) :
    own_End p e below P T (mkF m pc Ls (.long z :: rest)) := own_ret X hP hlk eT (fun h => by rw [hret] at h; cases h) hk hn hQ fun fs hr => retOut X hx hret rfl (Or.inr (Or.inl ⟨rfl, rfl, z, rfl⟩)) hd hr
theorem own_retA (X : Stand p l e R s m args below meth c T locs cells slots) (hP : P = own_P below s Q kc ns) (hx : p.tables.exec = Jvm.exec) (hlk : meth.locks = false) (eT : T.heap = h) {pc : Nat} {Ls : Array Slot} {w : Value} {rest : List Value} {t : FieldType} (hret : meth.sig.returnType = some t) (ht : t.isReference = true) (hw : w.isRef = true) (hnr : narrow t w = w) (hd : decode c.code pc = .ok (.areturn, 1)) (hk : cells ≤ kc) (hn : slots ≤ ns) (hQ : Q (some w) h locs) :
    own_End p e below P T (mkF m pc Ls (w :: rest)) := own_ret X hP hlk eT (fun h => by rw [hret] at h; cases h) hk hn hQ fun fs hr => retOut X hx hret hnr (Or.inr (Or.inr (Or.inr (Or.inr ⟨rfl, ht, hw⟩)))) hd hr
theorem own_callS (X : Stand p l e R s m args below meth c T locs cells slots) (hx : p.tables.exec = Jvm.exec) (hZ : Z.Warmed39 s.vm) {own : String} (hown : s.vm.findClass own = some m.cls) (eT : T.heap = h) {index : Nat} {y : MethodName} {bytes : ByteArray} {maxL : Nat} {ret : Option FieldType} {rm : Room} {as' : Array Value} {Q' : Option Value → Heap → List Loc → Prop}
    (w1 : (Cond.methodLink own index y).before a0 Z = true) (w2 : (Cond.static y).before a0 Z = true) (w3 : (Cond.initialized y.cls).before a0 Z = true) (w4 : (Cond.code y bytes maxL ret).before a0 Z = true) (hy : y.cls ≠ "java/lang/invoke/MethodHandle" ∧ y.cls ≠ "java/lang/invoke/VarHandle")
    (hM : own_Met l Z y bytes maxL ret [] rm as' h Q') {g : JFrame} (hg : g.method = m) (hsize : g.locals.size = c.maxLocals) {argsL rest : List Value} (hlen : ∀ sig, parseMethodDescriptor y.desc = some sig → argsL.length = sig.parameters.length) (hstack : g.stack = argsL.reverse ++ rest) (has : argsL.toArray = as') {W : Nat} (hW : 2 * g.monitorRoom + (rest.map fun v => v.category).sum ≤ W) (hdg : decode c.code g.pc = .ok (.invokestatic index, 3))
    (hf : rm.frames + 1 ≤ R.frames) (hl : W + (maxL + 11) + rm.locals ≤ R.locals) (hc : cells + rm.cells ≤ R.cells) (hs : slots + rm.slots ≤ R.slots)
    (k : ∀ v T' L, Stand p l e R s m args below meth c T' (locs ++ L) (cells + rm.cells) (slots + rm.slots) → Q' v T'.heap L → own_End p e below P T' { g with pc := g.pc + 3, stack := v.toList ++ rest }) : own_End p e below P T g := by
  obtain ⟨v, vm1, ⟨T', L1, k1, n1⟩, -, X', ⟨L, hQ, l1, y1, z1⟩, st⟩ := Jvm.LawKit.callS X hx (y := y) hown (mvT hZ w1) (mvT hZ w2) (mvT hZ w3) (mvT hZ w4) hy (backOf (W := W) hM hZ w4 w3 hf hl) hg hsize hlen hstack hW hdg (fun _ _ => ⟨has, eT, hc, hs⟩)
  dsimp only [Pt.U, Pt.locs, Pt.cells, Pt.slots] at X' l1 y1 z1 st hQ
  subst l1 y1 z1
  exact own_go st (k v T' L X' hQ)
theorem own_callC (X : Stand p l e R s m args below meth c T locs cells slots) (hx : p.tables.exec = Jvm.exec) (hZ : Z.Warmed39 s.vm) {own : String} (hown : s.vm.findClass own = some m.cls) (eT : T.heap = h) {index : Nat} {y : MethodName} {bytes : ByteArray} {maxL : Nat} {rm : Room} {as' : Array Value} {Q' : Option Value → Heap → List Loc → Prop}
    (hyi : y.name = "<init>") (w1 : (Cond.methodLink own index y).before a0 Z = true) (w2 : (Cond.instanceMethod y).before a0 Z = true) (w3 : (Cond.initialized y.cls).before a0 Z = true) (w4 : (Cond.code y bytes maxL none).before a0 Z = true) (hy : y.cls ≠ "java/lang/invoke/MethodHandle" ∧ y.cls ≠ "java/lang/invoke/VarHandle")
    (hM : own_Met l Z y bytes maxL none [] rm as' h Q') {g : JFrame} (hg : g.method = m) (hsize : g.locals.size = c.maxLocals) {a : Addr} {argsL rest : List Value} (hlen : ∀ sig, parseMethodDescriptor y.desc = some sig → argsL.length = sig.parameters.length) (hstack : g.stack = argsL.reverse ++ .ref a :: rest) (has : (.ref a :: argsL).toArray = as') {W : Nat} (hW : 2 * g.monitorRoom + (rest.map fun v => v.category).sum ≤ W) (hdg : decode c.code g.pc = .ok (.invokespecial index, 3))
    (hf : rm.frames + 1 ≤ R.frames) (hl : W + (maxL + 11) + rm.locals ≤ R.locals) (hc : cells + rm.cells ≤ R.cells) (hs : slots + rm.slots ≤ R.slots)
    (k : ∀ v T' L, Stand p l e R s m args below meth c T' (locs ++ L) (cells + rm.cells) (slots + rm.slots) → Q' v T'.heap L → own_End p e below P T' { g with pc := g.pc + 3, stack := v.toList ++ rest }) : own_End p e below P T g := by
  obtain ⟨v, vm1, ⟨T', L1, k1, n1⟩, -, X', ⟨L, hQ, l1, y1, z1⟩, st⟩ := X.specialBack hx (y := y) hyi hown (mvT hZ w1) (mvT hZ w2) (mvT hZ w4) hy (backOf (W := W) hM hZ w4 w3 hf hl) hg hsize (Steps.refl _) (a := a) hlen hstack hW hdg (fun _ _ => ⟨has, eT, hc, hs⟩)
  dsimp only [Pt.U, Pt.locs, Pt.cells, Pt.slots] at X' l1 y1 z1 st hQ
  subst l1 y1 z1
  exact own_via st (k v T' L X' hQ)
theorem own_callV (X : Stand p l e R s m args below meth c T locs cells slots) (hx : p.tables.exec = Jvm.exec) (hZ : Z.Warmed39 s.vm) {own : String} (hown : s.vm.findClass own = some m.cls) (eT : T.heap = h) {index : Nat} {C : String} {y z : MethodName} {bytes : ByteArray} {maxL : Nat} {ret : Option FieldType} {rm : Room} {as' : Array Value} {Q' : Option Value → Heap → List Loc → Prop}
    (w1 : (Cond.methodLink own index y).before a0 Z = true) (wd : (Cond.declares y).before a0 Z = true) (hnf : NotFace s y) (wsel : (Cond.selects C y z).before a0 Z = true) (w2 : (Cond.instanceMethod z).before a0 Z = true) (w3 : (Cond.initialized z.cls).before a0 Z = true) (w4 : (Cond.code z bytes maxL ret).before a0 Z = true) (hy : y.cls ≠ "java/lang/invoke/MethodHandle" ∧ y.cls ≠ "java/lang/invoke/VarHandle")
    (hM : own_Met l Z z bytes maxL ret [] rm as' h Q') {a : Addr} (E : Exa Z h a C) {g : JFrame} (hg : g.method = m) (hsize : g.locals.size = c.maxLocals) {argsL rest : List Value} (hlen : ∀ sig, parseMethodDescriptor y.desc = some sig → argsL.length = sig.parameters.length) (hstack : g.stack = argsL.reverse ++ .ref a :: rest) (has : (.ref a :: argsL).toArray = as') {W : Nat} (hW : 2 * g.monitorRoom + (rest.map fun v => v.category).sum ≤ W) (hdg : decode c.code g.pc = .ok (.invokevirtual index, 3))
    (hf : rm.frames + 1 ≤ R.frames) (hl : W + (maxL + 11) + rm.locals ≤ R.locals) (hc : cells + rm.cells ≤ R.cells) (hs : slots + rm.slots ≤ R.slots)
    (k : ∀ v T' L, Stand p l e R s m args below meth c T' (locs ++ L) (cells + rm.cells) (slots + rm.slots) → Q' v T'.heap L → own_End p e below P T' { g with pc := g.pc + 3, stack := v.toList ++ rest }) : own_End p e below P T g := by
  obtain ⟨cB, kB, q1, q2, q3⟩ := isOf (T := T) hZ eT E
  obtain ⟨v, vm1, ⟨T', L1, k1, n1⟩, -, X', ⟨L, hQ, l1, y1, z1⟩, st⟩ := X.virtualBack hx (y := y) (z := z) hown (mvT hZ w1) (mvT hZ wd) hnf (mvT hZ wsel) (mvT hZ w2) hy (backOf (W := W) hM hZ w4 w3 hf hl) q1 q3 hg hsize (Steps.refl _) hlen hstack hW hdg (fun _ _ => ⟨has, eT, hc, hs⟩)
  dsimp only [Pt.U, Pt.locs, Pt.cells, Pt.slots] at X' l1 y1 z1 st hQ
  subst l1 y1 z1
  exact own_via st (k v T' L X' hQ)
theorem own_selP {C : String} {x' y y' : MethodName} (wz : (Cond.selects C x' y').before args s = true) (hc : y'.cls = y.cls) (hpriv : s.PrivateAt y) (hinst : (Cond.instanceMethod y).before args s = true) (hy : y.cls ≠ "java/lang/invoke/MethodHandle" ∧ y.cls ≠ "java/lang/invoke/VarHandle") : (Cond.selects y.cls y y).before args s = true := by
  obtain ⟨_, _, m2, -, -, q3, -, kP, hkP, hkPi⟩ := Cond.selects_spec wz
  exact selects_self_of_private (by rw [← hc]; exact findClass_of_methodNamed q3) hkP hkPi hpriv hinst hy
theorem own_callP (X : Stand p l e R s m args below meth c T locs cells slots) (hx : p.tables.exec = Jvm.exec) (hZ : Z.Warmed39 s.vm) {own : String} (hown : s.vm.findClass own = some m.cls) (eT : T.heap = h) {index : Nat} {y : MethodName} {bytes : ByteArray} {maxL : Nat} {ret : Option FieldType} {rm : Room} {as' : Array Value} {Q' : Option Value → Heap → List Loc → Prop}
    (w1 : (Cond.methodLink own index y).before a0 Z = true) (w2 : (Cond.instanceMethod y).before a0 Z = true) (wsel : (Cond.selects y.cls y y).before args s = true) (wp : (Cond.privateMethod y).before a0 Z = true) (w3 : (Cond.initialized y.cls).before a0 Z = true) (w4 : (Cond.code y bytes maxL ret).before a0 Z = true) (hy : y.cls ≠ "java/lang/invoke/MethodHandle" ∧ y.cls ≠ "java/lang/invoke/VarHandle")
    (hM : own_Met l Z y bytes maxL ret [] rm as' h Q') {C : String} {a : Addr} (E : Exa Z h a C) {g : JFrame} (hg : g.method = m) (hsize : g.locals.size = c.maxLocals) {argsL rest : List Value} (hlen : ∀ sig, parseMethodDescriptor y.desc = some sig → argsL.length = sig.parameters.length) (hstack : g.stack = argsL.reverse ++ .ref a :: rest) (has : (.ref a :: argsL).toArray = as') {W : Nat} (hW : 2 * g.monitorRoom + (rest.map fun v => v.category).sum ≤ W) (hdg : decode c.code g.pc = .ok (.invokevirtual index, 3))
    (hf : rm.frames + 1 ≤ R.frames) (hl : W + (maxL + 11) + rm.locals ≤ R.locals) (hc : cells + rm.cells ≤ R.cells) (hs : slots + rm.slots ≤ R.slots)
    (k : ∀ v T' L, Stand p l e R s m args below meth c T' (locs ++ L) (cells + rm.cells) (slots + rm.slots) → Q' v T'.heap L → own_End p e below P T' { g with pc := g.pc + 3, stack := v.toList ++ rest }) : own_End p e below P T g := by
  obtain ⟨cq, q1, q2⟩ := E.cell
  obtain ⟨v, vm1, ⟨T', L1, k1, n1⟩, -, X', ⟨L, hQ, l1, y1, z1⟩, st⟩ := X.privateBack hx (y := y) hown (mvT hZ w1) (mvT hZ w2) wsel (Cond.privateMethod_at (mvP hZ wp (args := #[]))) (mvT hZ w4) hy (backOf (W := W) hM hZ w4 w3 hf hl) hg hsize (Steps.refl _) (a := a) (by rw [eT]; exact q1) q2 hlen hstack hW hdg (fun _ _ => ⟨has, eT, hc, hs⟩)
  dsimp only [Pt.U, Pt.locs, Pt.cells, Pt.slots] at X' l1 y1 z1 st hQ
  subst l1 y1 z1
  exact own_via st (k v T' L X' hQ)
end OwnSteps
/-! own: a truth as an int; comparisons of longs -/
def own_z (P : Prop) [Decidable P] : Int32 := if P then 1 else 0
section OwnTruth
variable {P : Prop} [Decidable P] {x y : Int64}
theorem own_z_t (h : P) : own_z P = 1 := if_pos h
theorem own_z_f (h : ¬ P) : own_z P = 0 := if_neg h
theorem own_z_nar : nar .boolean (own_z P) = own_z P := by unfold own_z; split <;> decide
theorem own_z_congr {P' : Prop} [Decidable P'] (h : P ↔ P') : own_z P = own_z P' := by unfold own_z; by_cases q : P <;> simp [q, h.symm, h.mp] <;> simp_all
theorem own_z_inj {P' : Prop} [Decidable P'] (h : own_z P = own_z P') : P ↔ P' := by
  unfold own_z at h; by_cases q : P <;> by_cases q' : P' <;> simp_all
theorem own_zY_eq (h : ¬ P) : ifCond.holds .eq (own_z P) = true := by rw [own_z_f h]; rfl
theorem own_zN_eq (h : P) : ifCond.holds .eq (own_z P) = false := by rw [own_z_t h]; rfl
theorem own_zY_ne (h : P) : ifCond.holds .ne (own_z P) = true := by rw [own_z_t h]; rfl
theorem own_zN_ne (h : ¬ P) : ifCond.holds .ne (own_z P) = false := by rw [own_z_f h]; rfl
theorem own_lY_lt (h : x < y) : ifCond.holds .lt (lcmpW x y) = true := (if0 _ _).trans (tlt ((lw_lt x y).mpr h)).1
theorem own_lN_lt (h : ¬ x < y) : ifCond.holds .lt (lcmpW x y) = false := (if0 _ _).trans (flt (mt (lw_lt x y).mp h)).1
theorem own_lY_ge (h : ¬ x < y) : ifCond.holds .ge (lcmpW x y) = true := (if0 _ _).trans (flt (mt (lw_lt x y).mp h)).2.1
theorem own_lN_ge (h : x < y) : ifCond.holds .ge (lcmpW x y) = false := (if0 _ _).trans (tlt ((lw_lt x y).mpr h)).2.1
theorem own_lY_gt (h : y < x) : ifCond.holds .gt (lcmpW x y) = true := (if0 _ _).trans (tlt ((lw_gt x y).mpr h)).2.2.1
theorem own_lN_gt (h : ¬ y < x) : ifCond.holds .gt (lcmpW x y) = false := (if0 _ _).trans (flt (mt (lw_gt x y).mp h)).2.2.1
theorem own_lY_le (h : ¬ y < x) : ifCond.holds .le (lcmpW x y) = true := (if0 _ _).trans (flt (mt (lw_gt x y).mp h)).2.2.2
theorem own_lN_le (h : y < x) : ifCond.holds .le (lcmpW x y) = false := (if0 _ _).trans (tlt ((lw_gt x y).mpr h)).2.2.2
theorem own_lY_eq (h : x = y) : ifCond.holds .eq (lcmpW x y) = true := (if0 _ _).trans (teq ((lw_eq x y).mpr h)).1
theorem own_lN_eq (h : ¬ x = y) : ifCond.holds .eq (lcmpW x y) = false := (if0 _ _).trans (feq (mt (lw_eq x y).mp h)).1
theorem own_lY_ne (h : ¬ x = y) : ifCond.holds .ne (lcmpW x y) = true := (if0 _ _).trans (feq (mt (lw_eq x y).mp h)).2
theorem own_lN_ne (h : x = y) : ifCond.holds .ne (lcmpW x y) = false := (if0 _ _).trans (teq ((lw_eq x y).mpr h)).2
end OwnTruth
/-! own: a callee that writes nothing -/
def own_Pq (val : Option Value) (h : Heap) : Option Value → Heap → List Loc → Prop := fun v h' L => v = val ∧ L = [] ∧ h' = h
section OwnPure
variable {p : Program} {l : Launch} {e : Env} {R : Room} {s : State} {m : MethodId} {args : Array Value} {below : List Frame} {meth : Method} {c : Code} {T : State} {locs : List Loc} {cells slots : Nat} {P : State → Outcome → Prop} {Q : Option Value → Heap → List Loc → Prop} {kc ns : Nat} {Z : State} {a0 : Array Value} {h : Heap} {f : JFrame}
theorem own_callSp (X : Stand p l e R s m args below meth c T locs cells slots) (hx : p.tables.exec = Jvm.exec) (hZ : Z.Warmed39 s.vm) {own : String} (hown : s.vm.findClass own = some m.cls) (eT : T.heap = h) {index : Nat} {y : MethodName} {bytes : ByteArray} {maxL : Nat} {ret : Option FieldType} {fr lo : Nat} {as' : Array Value} {val : Option Value}
    (w1 : (Cond.methodLink own index y).before a0 Z = true) (w2 : (Cond.static y).before a0 Z = true) (w3 : (Cond.initialized y.cls).before a0 Z = true) (w4 : (Cond.code y bytes maxL ret).before a0 Z = true) (hy : y.cls ≠ "java/lang/invoke/MethodHandle" ∧ y.cls ≠ "java/lang/invoke/VarHandle")
    (hM : own_Met l Z y bytes maxL ret [] { frames := fr, cells := 0, slots := 0, locals := lo } as' h (own_Pq val h)) {g : JFrame} (hg : g.method = m) (hsize : g.locals.size = c.maxLocals) {argsL rest : List Value} (hlen : ∀ sig, parseMethodDescriptor y.desc = some sig → argsL.length = sig.parameters.length) (hstack : g.stack = argsL.reverse ++ rest) (has : argsL.toArray = as') {W : Nat} (hW : 2 * g.monitorRoom + (rest.map fun v => v.category).sum ≤ W) (hdg : decode c.code g.pc = .ok (.invokestatic index, 3))
    (hf : fr + 1 ≤ R.frames) (hl : W + (maxL + 11) + lo ≤ R.locals) (hc : cells ≤ R.cells) (hs : slots ≤ R.slots)
    (k : ∀ T', Stand p l e R s m args below meth c T' locs cells slots → T'.heap = h → own_End p e below P T' { g with pc := g.pc + 3, stack := val.toList ++ rest }) : own_End p e below P T g :=
  own_callS X hx hZ hown eT w1 w2 w3 w4 hy hM hg hsize hlen hstack has hW hdg hf hl hc hs fun v T' L X' ⟨q1, q2, q3⟩ => by
    subst q1 q2
    rw [List.append_nil] at X'
    exact k T' X' q3
theorem own_callCp (X : Stand p l e R s m args below meth c T locs cells slots) (hx : p.tables.exec = Jvm.exec) (hZ : Z.Warmed39 s.vm) {own : String} (hown : s.vm.findClass own = some m.cls) (eT : T.heap = h) {index : Nat} {y : MethodName} {bytes : ByteArray} {maxL : Nat} {fr lo : Nat} {as' : Array Value} {val : Option Value}
    (hyi : y.name = "<init>") (w1 : (Cond.methodLink own index y).before a0 Z = true) (w2 : (Cond.instanceMethod y).before a0 Z = true) (w3 : (Cond.initialized y.cls).before a0 Z = true) (w4 : (Cond.code y bytes maxL none).before a0 Z = true) (hy : y.cls ≠ "java/lang/invoke/MethodHandle" ∧ y.cls ≠ "java/lang/invoke/VarHandle")
    (hM : own_Met l Z y bytes maxL none [] { frames := fr, cells := 0, slots := 0, locals := lo } as' h (own_Pq val h)) {g : JFrame} (hg : g.method = m) (hsize : g.locals.size = c.maxLocals) {a : Addr} {argsL rest : List Value} (hlen : ∀ sig, parseMethodDescriptor y.desc = some sig → argsL.length = sig.parameters.length) (hstack : g.stack = argsL.reverse ++ .ref a :: rest) (has : (.ref a :: argsL).toArray = as') {W : Nat} (hW : 2 * g.monitorRoom + (rest.map fun v => v.category).sum ≤ W) (hdg : decode c.code g.pc = .ok (.invokespecial index, 3))
    (hf : fr + 1 ≤ R.frames) (hl : W + (maxL + 11) + lo ≤ R.locals) (hc : cells ≤ R.cells) (hs : slots ≤ R.slots)
    (k : ∀ T', Stand p l e R s m args below meth c T' locs cells slots → T'.heap = h → own_End p e below P T' { g with pc := g.pc + 3, stack := val.toList ++ rest }) : own_End p e below P T g :=
  own_callC X hx hZ hown eT hyi w1 w2 w3 w4 hy hM hg hsize hlen hstack has hW hdg hf hl hc hs fun v T' L X' ⟨q1, q2, q3⟩ => by
    subst q1 q2
    rw [List.append_nil] at X'
    exact k T' X' q3
theorem own_callVp (X : Stand p l e R s m args below meth c T locs cells slots) (hx : p.tables.exec = Jvm.exec) (hZ : Z.Warmed39 s.vm) {own : String} (hown : s.vm.findClass own = some m.cls) (eT : T.heap = h) {index : Nat} {C : String} {y z : MethodName} {bytes : ByteArray} {maxL : Nat} {ret : Option FieldType} {fr lo : Nat} {as' : Array Value} {val : Option Value}
    (w1 : (Cond.methodLink own index y).before a0 Z = true) (wd : (Cond.declares y).before a0 Z = true) (hnf : NotFace s y) (wsel : (Cond.selects C y z).before a0 Z = true) (w2 : (Cond.instanceMethod z).before a0 Z = true) (w3 : (Cond.initialized z.cls).before a0 Z = true) (w4 : (Cond.code z bytes maxL ret).before a0 Z = true) (hy : y.cls ≠ "java/lang/invoke/MethodHandle" ∧ y.cls ≠ "java/lang/invoke/VarHandle")
    (hM : own_Met l Z z bytes maxL ret [] { frames := fr, cells := 0, slots := 0, locals := lo } as' h (own_Pq val h)) {a : Addr} (E : Exa Z h a C) {g : JFrame} (hg : g.method = m) (hsize : g.locals.size = c.maxLocals) {argsL rest : List Value} (hlen : ∀ sig, parseMethodDescriptor y.desc = some sig → argsL.length = sig.parameters.length) (hstack : g.stack = argsL.reverse ++ .ref a :: rest) (has : (.ref a :: argsL).toArray = as') {W : Nat} (hW : 2 * g.monitorRoom + (rest.map fun v => v.category).sum ≤ W) (hdg : decode c.code g.pc = .ok (.invokevirtual index, 3))
    (hf : fr + 1 ≤ R.frames) (hl : W + (maxL + 11) + lo ≤ R.locals) (hc : cells ≤ R.cells) (hs : slots ≤ R.slots)
    (k : ∀ T', Stand p l e R s m args below meth c T' locs cells slots → T'.heap = h → own_End p e below P T' { g with pc := g.pc + 3, stack := val.toList ++ rest }) : own_End p e below P T g :=
  own_callV X hx hZ hown eT w1 wd hnf wsel w2 w3 w4 hy hM E hg hsize hlen hstack has hW hdg hf hl hc hs fun v T' L X' ⟨q1, q2, q3⟩ => by
    subst q1 q2
    rw [List.append_nil] at X'
    exact k T' X' q3
theorem own_callPp (X : Stand p l e R s m args below meth c T locs cells slots) (hx : p.tables.exec = Jvm.exec) (hZ : Z.Warmed39 s.vm) {own : String} (hown : s.vm.findClass own = some m.cls) (eT : T.heap = h) {index : Nat} {y : MethodName} {bytes : ByteArray} {maxL : Nat} {ret : Option FieldType} {fr lo : Nat} {as' : Array Value} {val : Option Value}
    (w1 : (Cond.methodLink own index y).before a0 Z = true) (w2 : (Cond.instanceMethod y).before a0 Z = true) (wsel : (Cond.selects y.cls y y).before args s = true) (wp : (Cond.privateMethod y).before a0 Z = true) (w3 : (Cond.initialized y.cls).before a0 Z = true) (w4 : (Cond.code y bytes maxL ret).before a0 Z = true) (hy : y.cls ≠ "java/lang/invoke/MethodHandle" ∧ y.cls ≠ "java/lang/invoke/VarHandle")
    (hM : own_Met l Z y bytes maxL ret [] { frames := fr, cells := 0, slots := 0, locals := lo } as' h (own_Pq val h)) {C : String} {a : Addr} (E : Exa Z h a C) {g : JFrame} (hg : g.method = m) (hsize : g.locals.size = c.maxLocals) {argsL rest : List Value} (hlen : ∀ sig, parseMethodDescriptor y.desc = some sig → argsL.length = sig.parameters.length) (hstack : g.stack = argsL.reverse ++ .ref a :: rest) (has : (.ref a :: argsL).toArray = as') {W : Nat} (hW : 2 * g.monitorRoom + (rest.map fun v => v.category).sum ≤ W) (hdg : decode c.code g.pc = .ok (.invokevirtual index, 3))
    (hf : fr + 1 ≤ R.frames) (hl : W + (maxL + 11) + lo ≤ R.locals) (hc : cells ≤ R.cells) (hs : slots ≤ R.slots)
    (k : ∀ T', Stand p l e R s m args below meth c T' locs cells slots → T'.heap = h → own_End p e below P T' { g with pc := g.pc + 3, stack := val.toList ++ rest }) : own_End p e below P T g :=
  own_callP X hx hZ hown eT w1 w2 wsel wp w3 w4 hy hM E hg hsize hlen hstack has hW hdg hf hl hc hs fun v T' L X' ⟨q1, q2, q3⟩ => by
    subst q1 q2
    rw [List.append_nil] at X'
    exact k T' X' q3
end OwnPure
/-! own: a cell that is known -/
def own_K (h : Heap) (a : Addr) : Prop := ∃ cell : Cell, h[a]? = some cell ∧ cell.vm ≠ .unknown
theorem own_K_ext {h h' : Heap} {a : Addr} (K : own_K h a) (E : Ext h h') : own_K h' a := by obtain ⟨c, h1, h2⟩ := K; exact ⟨c, E.2 _ _ h1, h2⟩
theorem own_K_wr {h h' : Heap} {a b : Addr} {sl : Nat} {v : Value} (K : own_K h b) (W : Wr h h' a sl v) : own_K h' b := by
  obtain ⟨c, h1, h2⟩ := K
  obtain ⟨c', e1, -, e3, -⟩ := wr_at W h1
  exact ⟨c', e1, by rw [e3]; exact h2⟩
theorem own_K_keep {h h' : Heap} {a : Addr} {ws : List Addr} (K : own_K h a) (E : Keep h h' ws) : own_K h' a := by
  obtain ⟨c, h1, h2⟩ := K
  obtain ⟨c', e1, -, e3, -⟩ := E.2.2 _ _ h1
  exact ⟨c', e1, by rw [e3]; exact h2⟩
theorem own_K_new {h : Heap} {a : Addr} (U : ∃ cell : Cell, h[a]? = some cell ∧ cell.vm = .none ∧ cell.monitor = {}) : own_K h a := by
  obtain ⟨c, h1, h2, -⟩ := U
  exact ⟨c, h1, by rw [h2]; simp⟩
/-! own: an array of n places, place i holds f i -/
def own_A (Z : State) (h : Heap) (a : Addr) (ty : FieldType) (n : Nat) (f : Nat → Value) : Prop := ∃ c : Cell, Arr Z h a c ty ∧ c.slots.size = n ∧ n < 2147483648 ∧ ∀ i, i < n → c.slots[i]? = some (f i)
abbrev own_AJ (Z : State) (h : Heap) (a : Addr) (n : Nat) (f : Nat → Int64) : Prop := own_A Z h a .long n (fun i => .long (f i))
abbrev own_AI (Z : State) (h : Heap) (a : Addr) (n : Nat) (f : Nat → Int32) : Prop := own_A Z h a .int n (fun i => .int (f i))
abbrev own_AB (Z : State) (h : Heap) (a : Addr) (n : Nat) (f : Nat → Int32) : Prop := own_A Z h a .byte n (fun i => .int (f i))
def own_set {α : Type} (f : Nat → α) (i : Nat) (x : α) : Nat → α := fun k => if k = i then x else f k
theorem own_set_eq {α : Type} {f : Nat → α} {i k : Nat} {x : α} (h : k = i) : own_set f i x k = x := if_pos h
theorem own_set_ne {α : Type} {f : Nat → α} {i k : Nat} {x : α} (h : k ≠ i) : own_set f i x k = f k := if_neg h
section OwnArr
variable {Z : State} {h h' : Heap} {a b : Addr} {ty : FieldType} {n : Nat} {f f' : Nat → Value}
theorem own_A.lt (A : own_A Z h a ty n f) : a < h.size := by obtain ⟨c, A, -⟩ := A; exact A.lt
theorem own_A.ext (A : own_A Z h a ty n f) (E : Ext h h') : own_A Z h' a ty n f := by obtain ⟨c, A, r⟩ := A; exact ⟨c, A.ext E, r⟩
theorem own_A.other {sl : Nat} {v : Value} (A : own_A Z h b ty n f) (W : Wr h h' a sl v) (q : b ≠ a) : own_A Z h' b ty n f := by obtain ⟨c, A, r⟩ := A; exact ⟨c, A.other W q, r⟩
theorem own_A.keep {ws : List Addr} (A : own_A Z h a ty n f) (K : Keep h h' ws) (q : a ∉ ws) : own_A Z h' a ty n f := by obtain ⟨c, A, r⟩ := A; exact ⟨c, ⟨K.2.1 a c A.1 q, A.2⟩, r⟩
theorem own_A.congr (A : own_A Z h a ty n f) (q : ∀ i, i < n → f i = f' i) : own_A Z h a ty n f' := by obtain ⟨c, A, r1, r2, r3⟩ := A; exact ⟨c, A, r1, r2, fun i hi => by rw [← q i hi]; exact r3 i hi⟩
theorem own_nat {j : Int32} {i : Nat} (hj : j.toInt = (i : Int)) : j.toNatClampNeg = i := by
  show j.toInt.toNat = i
  rw [hj]; rfl
theorem own_negn {z : Int32} {k : Nat} (h : z.toInt = (k : Int)) : ¬ z < (0 : Int32) := by rw [Int32.lt_iff_toInt_lt, h, show (0 : Int32).toInt = 0 from rfl]; omega
theorem own_capn {z : Int32} {k cap : Nat} (h : z.toInt = (k : Int)) (hk : k ≤ cap) : z.toNatClampNeg ≤ cap := by rw [own_nat h]; exact hk
theorem own_in {c : Cell} {j : Int32} {i : Nat} (S : c.slots.size = n) (hj : j.toInt = (i : Int)) (hi : i < n) : ¬ (j < 0 ∨ c.slots.size ≤ j.toNatClampNeg) := by
  rw [own_nat hj, S, Int32.lt_iff_toInt_lt, hj, show (0 : Int32).toInt = 0 from rfl]; omega
theorem own_A_new {cA : ClassId} {z : Int32} (A : Arr Z h a (newA cA ty z) ty) (hz : z.toInt = (n : Int)) : own_A Z h a ty n (fun _ => defaultValue ty) := by
  have hn : z.toNatClampNeg = n := own_nat hz
  have hl := z.toInt_lt
  refine ⟨_, A, by rw [sz_new]; exact hn, by omega, fun i hi => ?_⟩
  simp [newA, hn, hi]
theorem own_A_set {j : Int32} {i : Nat} {v : Value} (A : own_A Z h a ty n f) (W : Wr h h' a j.toNatClampNeg v) (hj : j.toInt = (i : Int)) (hi : i < n) : own_A Z h' a ty n (own_set f i v) := by
  obtain ⟨c, A, r1, r2, r3⟩ := A
  rw [own_nat hj] at W
  refine ⟨_, A.same W, by rw [sz_set]; exact r1, r2, fun k hk => ?_⟩
  show (c.slots.setIfInBounds i v)[k]? = some (if k = i then v else f k)
  by_cases q : k = i
  · subst q; rw [if_pos rfl]; simp [r1, hi]
  · rw [if_neg q, Array.getElem?_setIfInBounds_ne (Ne.symm q)]; exact r3 k hk
end OwnArr
section OwnArrSteps
variable {p : Program} {l : Launch} {e : Env} {R : Room} {s : State} {m : MethodId} {args : Array Value} {below : List Frame} {meth : Method} {c : Code} {T : State} {locs : List Loc} {cells slots : Nat} {Z : State} {a0 : Array Value} {h : Heap} {a : Addr} {n i : Nat} {j : Int32} {g : JFrame} {rest : List Value}
theorem own_laload (X : Stand p l e R s m args below meth c T locs cells slots) (hx : p.tables.exec = Jvm.exec) (hZ : Z.Warmed39 s.vm) (eT : T.heap = h) {f : Nat → Int64} (A : own_AJ Z h a n f) (hj : j.toInt = (i : Int)) (hi : i < n) (hg : g.method = m) (hs : g.stack = .int j :: .ref a :: rest) (hd : decode c.code g.pc = .ok (.laload, 1)) :
    ∀ target, Steps p.tables e below (T.setTop { g with pc := g.pc + 1, stack := .long (f i) :: rest }) target → Steps p.tables e below (T.setTop g) target := by
  obtain ⟨cl, A, r1, r2, r3⟩ := A
  exact X.laload hx (j := j) (v := .long (f i)) (by rw [eT]; exact A.1) (State.isArrayOf_alike hZ.alike A.2.1) A.2.2 (own_in r1 hj hi) (by rw [own_nat hj]; exact r3 i hi) hg hs hd
theorem own_iaload (X : Stand p l e R s m args below meth c T locs cells slots) (hx : p.tables.exec = Jvm.exec) (hZ : Z.Warmed39 s.vm) (eT : T.heap = h) {f : Nat → Int32} (A : own_AI Z h a n f) (hj : j.toInt = (i : Int)) (hi : i < n) (hg : g.method = m) (hs : g.stack = .int j :: .ref a :: rest) (hd : decode c.code g.pc = .ok (.iaload, 1)) :
    ∀ target, Steps p.tables e below (T.setTop { g with pc := g.pc + 1, stack := .int (f i) :: rest }) target → Steps p.tables e below (T.setTop g) target := by
  obtain ⟨cl, A, r1, r2, r3⟩ := A
  exact X.iaload hx (j := j) (v := .int (f i)) (by rw [eT]; exact A.1) (State.isArrayOf_alike hZ.alike A.2.1) A.2.2 (own_in r1 hj hi) (by rw [own_nat hj]; exact r3 i hi) hg hs hd
theorem own_baload (X : Stand p l e R s m args below meth c T locs cells slots) (hx : p.tables.exec = Jvm.exec) (hZ : Z.Warmed39 s.vm) (eT : T.heap = h) {f : Nat → Int32} (A : own_AB Z h a n f) (hj : j.toInt = (i : Int)) (hi : i < n) (hg : g.method = m) (hs : g.stack = .int j :: .ref a :: rest) (hd : decode c.code g.pc = .ok (.baload, 1)) :
    ∀ target, Steps p.tables e below (T.setTop { g with pc := g.pc + 1, stack := .int (f i) :: rest }) target → Steps p.tables e below (T.setTop g) target := by
  obtain ⟨cl, A, r1, r2, r3⟩ := A
  exact X.baloadBytes hx (j := j) (v := .int (f i)) (by rw [eT]; exact A.1) (State.isArrayOf_alike hZ.alike A.2.1) A.2.2 (own_in r1 hj hi) (by rw [own_nat hj]; exact r3 i hi) hg hs hd
theorem own_length (X : Stand p l e R s m args below meth c T locs cells slots) (hx : p.tables.exec = Jvm.exec) (hZ : Z.Warmed39 s.vm) (eT : T.heap = h) {ty : FieldType} {f : Nat → Value} (A : own_A Z h a ty n f) {z : Int32} (hz : z.toInt = (n : Int)) (hg : g.method = m) (hs : g.stack = .ref a :: rest) (hd : decode c.code g.pc = .ok (.arraylength, 1)) :
    ∀ target, Steps p.tables e below (T.setTop { g with pc := g.pc + 1, stack := .int z :: rest }) target → Steps p.tables e below (T.setTop g) target := by
  obtain ⟨cl, A, r1, r2, -⟩ := A
  intro target k
  refine X.arraylength hx (by rw [eT]; exact A.1) (State.isArrayOf_alike hZ.alike A.2.1) hg hs hd _ ?_
  have q : cl.slots.size.toInt32 = z := Int32.toInt_inj.mp (by rw [r1, hz]; exact Int32.toInt_ofNat_of_lt (by omega))
  rw [q]; exact k
theorem own_lastore (X : Stand p l e R s m args below meth c T locs cells slots) (hx : p.tables.exec = Jvm.exec) (hZ : Z.Warmed39 s.vm) (eT : T.heap = h) {f : Nat → Int64} {x : Int64} (A : own_AJ Z h a n f) (hj : j.toInt = (i : Int)) (hi : i < n) (hg : g.method = m) (hs : g.stack = .long x :: .int j :: .ref a :: rest) (hd : decode c.code g.pc = .ok (.lastore, 1)) :
    ∃ T' h', Stand p l e R s m args below meth c T' (locs ++ [⟨a, j.toNatClampNeg⟩]) cells slots ∧ T'.heap = h' ∧ Wr h h' a j.toNatClampNeg (.long x) ∧ own_AJ Z h' a n (own_set f i x) ∧ ∀ target, Steps p.tables e below (T'.setTop { g with pc := g.pc + 1, stack := rest }) target → Steps p.tables e below (T.setTop g) target := by
  obtain ⟨cl, B, r1, r2, r3⟩ := A
  obtain ⟨T', h', X', e', W, st⟩ := stJ X hx hZ eT B (own_in r1 hj hi) hg hs hd
  exact ⟨T', h', X', e', W, (own_A_set ⟨cl, B, r1, r2, r3⟩ W hj hi).congr fun k _ => by unfold own_set; split <;> rfl, st⟩
theorem own_iastore (X : Stand p l e R s m args below meth c T locs cells slots) (hx : p.tables.exec = Jvm.exec) (hZ : Z.Warmed39 s.vm) (eT : T.heap = h) {f : Nat → Int32} {x : Int32} (A : own_AI Z h a n f) (hj : j.toInt = (i : Int)) (hi : i < n) (hg : g.method = m) (hs : g.stack = .int x :: .int j :: .ref a :: rest) (hd : decode c.code g.pc = .ok (.iastore, 1)) :
    ∃ T' h', Stand p l e R s m args below meth c T' (locs ++ [⟨a, j.toNatClampNeg⟩]) cells slots ∧ T'.heap = h' ∧ Wr h h' a j.toNatClampNeg (.int x) ∧ own_AI Z h' a n (own_set f i x) ∧ ∀ target, Steps p.tables e below (T'.setTop { g with pc := g.pc + 1, stack := rest }) target → Steps p.tables e below (T.setTop g) target := by
  obtain ⟨cl, B, r1, r2, r3⟩ := A
  obtain ⟨T', h', X', e', W, st⟩ := stI X hx hZ eT B (own_in r1 hj hi) hg hs hd
  exact ⟨T', h', X', e', W, (own_A_set ⟨cl, B, r1, r2, r3⟩ W hj hi).congr fun k _ => by unfold own_set; split <;> rfl, st⟩
theorem own_bastore (X : Stand p l e R s m args below meth c T locs cells slots) (hx : p.tables.exec = Jvm.exec) (hZ : Z.Warmed39 s.vm) (eT : T.heap = h) {f : Nat → Int32} {x : Int32} (A : own_AB Z h a n f) (hj : j.toInt = (i : Int)) (hi : i < n) (hg : g.method = m) (hs : g.stack = .int x :: .int j :: .ref a :: rest) (hd : decode c.code g.pc = .ok (.bastore, 1)) :
    ∃ T' h', Stand p l e R s m args below meth c T' (locs ++ [⟨a, j.toNatClampNeg⟩]) cells slots ∧ T'.heap = h' ∧ Wr h h' a j.toNatClampNeg (.int (nar .byte x)) ∧ own_AB Z h' a n (own_set f i (x.toInt8.toInt32)) ∧ ∀ target, Steps p.tables e below (T'.setTop { g with pc := g.pc + 1, stack := rest }) target → Steps p.tables e below (T.setTop g) target := by
  obtain ⟨cl, B, r1, r2, r3⟩ := A
  obtain ⟨T', h', X', e', W, st⟩ := stB X hx hZ eT B (own_in r1 hj hi) hg hs hd
  exact ⟨T', h', X', e', W, (own_A_set ⟨cl, B, r1, r2, r3⟩ W hj hi).congr fun k _ => by unfold own_set; split <;> rfl, st⟩
end OwnArrSteps
/-! own: the wide end: String constants may have been interned meanwhile -/
def own_PW (below : List Frame) (s : State) (Q : Option Value → Heap → List Loc → Prop) (kc ns : Nat) : State → Outcome → Prop := fun s₂ o => s₂.status = .running ∧ Ended s₂ below o ∧ ∃ v L, o = .returned v ∧ Q v s₂.heap L ∧ ReturnedEndW s o s₂ L kc ns
def own_MetW (l : Launch) (Z : State) (y : MethodName) (bytes : ByteArray) (maxL : Nat) (ret : Option FieldType) (ws : List Jvm.Cond) (rm : Room) (as' : Array Value) (h : Heap) (Q : Option Value → Heap → List Loc → Prop) : Prop :=
  MetFree l y (head1 (Jvm.Cond.code y bytes maxL ret :: ws) rm) (fun a U => a = as' ∧ Z.Warmed39 U.vm ∧ U.heap = h) (fun _ _ _ _ _ => True) (fun _ U o U' => ∃ v L, o = .returned v ∧ Q v U'.heap L ∧ ReturnedEndW U o U' L rm.cells rm.slots)
section OwnWide
variable {p : Program} {l : Launch} {e : Env} {R : Room} {s : State} {vm0 : Vm} {m : MethodId} {args : Array Value} {below : List Frame} {meth : Method} {c : Code} {T : State} {locs : List Loc} {cells slots : Nat} {P : State → Outcome → Prop} {Q : Option Value → Heap → List Loc → Prop} {kc ns k0 : Nat} {Z : State} {a0 : Array Value} {h : Heap} {f : JFrame}
theorem own_bodyW {y : MethodName} {bytes : ByteArray} {maxL : Nat} {ret : Option FieldType} {ws : List Jvm.Cond} {rm : Room} {as' : Array Value} (hpl : plainFor y = true)
    (body : ∀ (p : Program) (e : Env) (s : State) (m : MethodId) (below : List Frame) (meth : Method) (c : Code) (s₁ : State), p.tables.exec = Jvm.exec → Z.Warmed39 (s.setVm s.vm).vm → c.code = bytes → c.maxLocals = maxL → (s.setVm s.vm).vm.findClass y.cls = some m.cls → meth.name = y.name → meth.sig.returnType = ret → meth.locks = false →
      Stand p l e rm (s.setVm s.vm) m as' below meth c s₁ [] 0 0 → s₁.heap = h → s.Since s.vm 0 → own_End p e below (own_PW below s Q rm.cells rm.slots) s₁ (entryFrame m as' maxL)) : own_MetW l Z y bytes maxL ret ws rm as' h Q := by
  refine MetFree.of_bodySF hpl hisR ?_
  intro p e s m args below meth c s₁ Bd hml0 hP hK
  obtain ⟨rfl, hZ, hh⟩ := hP
  exact body p e s m below meth c s₁ Bd.exec hZ Bd.bytes hml0 (findClass_of_methodNamed Bd.named) (name_of_methodNamed Bd.named Bd.method).1 Bd.returns Bd.notSynchronized (Stand.of_body Bd) (by rw [← hh, Bd.state]; rfl) ((State.WarmedH.refl s).since 0)
theorem own_retW (X : Stand p l e R (s.setVm vm0) m args below meth c T locs cells slots) (hP : P = own_PW below s Q kc ns) (hlk : meth.locks = false) (eT : T.heap = h) (hS : s.Since vm0 k0) (hk0 : k0 ≤ h.size) {v : Option Value} (hv : meth.sig.returnType = none → v = none) (hk : cells ≤ kc) (hn : slots ≤ ns) (hQ : Q v h locs)
    (st : ∀ fs, (∀ (f : JFrame) (acts : List Action), f.method = m → f.locked = none → f.entered = [] → (doReturn e (T.setTop f) acts v).1 = T.setFrames fs) → Steps p.tables e below (T.setTop f) (T.setFrames fs)) : own_End p e below P T f := by
  obtain ⟨fs, hr, hrun, hended, hE⟩ := X.leaveW hS (by rw [eT]; exact hk0) hv hlk
  subst hP
  exact ⟨_, _, st fs hr, hrun, hended, _, _, rfl, (eT ▸ hQ : Q v T.heap locs), hE.1, hE.2.1, hE.2.2.1, hE.2.2.2.mono hk hn⟩
theorem own_retVW (X : Stand p l e R (s.setVm vm0) m args below meth c T locs cells slots) (hP : P = own_PW below s Q kc ns) (hx : p.tables.exec = Jvm.exec) (hlk : meth.locks = false) (eT : T.heap = h) (hS : s.Since vm0 k0) (hk0 : k0 ≤ h.size) {pc : Nat} {Ls : Array Slot} (hret : meth.sig.returnType = none) (hd : decode c.code pc = .ok (.return_, 1)) (hk : cells ≤ kc) (hn : slots ≤ ns) (hQ : Q none h locs) :
    own_End p e below P T (mkF m pc Ls []) := own_retW X hP hlk eT hS hk0 (fun _ => rfl) hk hn hQ fun _ hr => X.returnOut hx hret hd hr
theorem own_retNW (X : Stand p l e R (s.setVm vm0) m args below meth c T locs cells slots) (hP : P = own_PW below s Q kc ns) (hx : p.tables.exec = Jvm.exec) (hlk : meth.locks = false) (eT : T.heap = h) (hS : s.Since vm0 k0) (hk0 : k0 ≤ h.size) {pc : Nat} {Ls : Array Slot} {z : Int32} {rest : List Value} {t : FieldType} (hret : meth.sig.returnType = some t) (ht : t = .boolean ∨ t = .byte ∨ t = .char ∨ t = .short) (hd : decode c.code pc = .ok (.ireturn, 1)) (hk : cells ≤ kc) (hn : slots ≤ ns) {z' : Int32} (hz : nar t z = z') (hQ : Q (some (.int z')) h locs) :
    own_End p e below P T (mkF m pc Ls (.int z :: rest)) := by
  subst hz
  exact own_retW X hP hlk eT hS hk0 (fun h => by rw [hret] at h; cases h) hk hn hQ fun fs hr => retN X hx hret ht hd hr
/-- a constructor that may intern -/
theorem own_callCW (X : Stand p l e R (s.setVm vm0) m args below meth c T locs cells slots) (hx : p.tables.exec = Jvm.exec) (hZ : Z.Warmed39 (s.setVm vm0).vm) {own : String} (hown : (s.setVm vm0).vm.findClass own = some m.cls) (eT : T.heap = h) (hS : s.Since vm0 k0) (hk0 : k0 ≤ h.size) {index : Nat} {y : MethodName} {bytes : ByteArray} {maxL : Nat} {rm : Room} {as' : Array Value} {Q' : Option Value → Heap → List Loc → Prop}
    (hyi : y.name = "<init>") (w1 : (Cond.methodLink own index y).before a0 Z = true) (w2 : (Cond.instanceMethod y).before a0 Z = true) (w3 : (Cond.initialized y.cls).before a0 Z = true) (w4 : (Cond.code y bytes maxL none).before a0 Z = true) (hy : y.cls ≠ "java/lang/invoke/MethodHandle" ∧ y.cls ≠ "java/lang/invoke/VarHandle")
    (hM : own_MetW l Z y bytes maxL none [] rm as' h Q') {g : JFrame} (hg : g.method = m) (hsize : g.locals.size = c.maxLocals) {a : Addr} {argsL rest : List Value} (hlen : ∀ sig, parseMethodDescriptor y.desc = some sig → argsL.length = sig.parameters.length) (hstack : g.stack = argsL.reverse ++ .ref a :: rest) (has : (.ref a :: argsL).toArray = as') {W : Nat} (hW : 2 * g.monitorRoom + (rest.map fun v => v.category).sum ≤ W) (hdg : decode c.code g.pc = .ok (.invokespecial index, 3))
    (hf : rm.frames + 1 ≤ R.frames) (hl : W + (maxL + 11) + rm.locals ≤ R.locals) (hc : cells + rm.cells ≤ R.cells) (hs : slots + rm.slots ≤ R.slots)
    (k : ∀ v T' L, Stand p l e R (s.setVm T'.vm) m args below meth c T' (locs ++ L) (cells + rm.cells) (slots + rm.slots) → Z.Warmed39 (s.setVm T'.vm).vm → (s.setVm T'.vm).vm.findClass own = some m.cls → s.Since T'.vm T'.heap.size → Q' v T'.heap L → own_End p e below P T' { g with pc := g.pc + 3, stack := v.toList ++ rest }) : own_End p e below P T g := by
  obtain ⟨v, vm1, ⟨T', L1, k1, n1⟩, -, X', hS2, hg2, ⟨L, hQ, l1, y1, z1⟩, st⟩ := X.specialBackS hx (y := y) hyi hown (mvT hZ w1) (mvT hZ w2) (mvT hZ w4) hy (backOfS (W := W) hM hZ w4 w3 hf hl) hg hsize (Steps.refl _) (a := a) hlen hstack hW hdg (fun _ _ => ⟨has, eT, hc, hs⟩)
  dsimp only [Pt.U, Pt.locs, Pt.cells, Pt.slots] at X' l1 y1 z1 st hQ hS2 hg2
  subst l1 y1 z1
  obtain ⟨X3, hS3, hZ3, hown3⟩ := rebS hS (by rw [eT]; exact hk0) X' hS2 hg2 hZ hown
  exact own_via st (k v T' L X3 hZ3 hown3 hS3 hQ)
end OwnWide
/-! own: callees that load String constants which are held (the library's CHv, CHr) -/
def own_PH (Z : State) (EL : List (String × Nat)) (below : List Frame) (s : State) (Q : Option Value → Heap → List Loc → Prop) (kc ns : Nat) : State → Outcome → Prop := fun s₂ o => s₂.status = .running ∧ Ended s₂ below o ∧ ∃ v L, o = .returned v ∧ Q v s₂.heap L ∧ CHr Z EL s.vm s.heap s₂.vm s₂.heap ∧ ReturnedEndW s o s₂ L kc ns
def own_MetHE (EL : List (String × Nat)) (l : Launch) (Z : State) (y : MethodName) (bytes : ByteArray) (maxL : Nat) (ret : Option FieldType) (ws : List Jvm.Cond) (rm : Room) (as' : Array Value) (h : Heap) (Q : Option Value → Heap → List Loc → Prop) : Prop :=
  MetFree l y (head1 (Jvm.Cond.code y bytes maxL ret :: ws) rm) (fun a U => a = as' ∧ Z.Warmed39 U.vm ∧ U.heap = h ∧ CHv Z EL U.vm h) (fun _ _ _ _ _ => True) (fun _ U o U' => ∃ v L, o = .returned v ∧ Q v U'.heap L ∧ CHr Z EL U.vm U.heap U'.vm U'.heap ∧ ReturnedEndW U o U' L rm.cells rm.slots)
def own_MetWHE (EL : List (String × Nat)) (l : Launch) (Z : State) (y : MethodName) (bytes : ByteArray) (maxL : Nat) (ret : Option FieldType) (ws : List Jvm.Cond) (rm : Room) (as' : Array Value) (h : Heap) (Q : Option Value → Heap → List Loc → Prop) : Prop :=
  MetFree l y (head1 (Jvm.Cond.code y bytes maxL ret :: ws) rm) (fun a U => a = as' ∧ Z.Warmed39 U.vm ∧ U.heap = h ∧ CHv Z EL U.vm h) (fun _ _ _ _ _ => True) (fun _ U o U' => ∃ v L, o = .returned v ∧ Q v U'.heap L ∧ ReturnedEndW U o U' L rm.cells rm.slots)
theorem own_sta_keep {Z : State} {h h' : Heap} {C n d : String} {w : Value} (F : Sta Z h C n d w) (K : Keep h h' []) : Sta Z h' C n d w := by
  obtain ⟨cf, i, k, f, st, cell, h1, h2, h3, h4, h5, r⟩ := F; exact ⟨cf, i, k, f, st, cell, h1, h2, h3, h4, K.2.1 _ _ h5 (by simp), r⟩
section OwnHeld
variable {p : Program} {l : Launch} {e : Env} {R : Room} {s : State} {vm0 : Vm} {m : MethodId} {args : Array Value} {below : List Frame} {meth : Method} {c : Code} {T : State} {locs : List Loc} {cells slots : Nat} {P : State → Outcome → Prop} {Q : Option Value → Heap → List Loc → Prop} {kc ns k0 : Nat} {Z : State} {a0 : Array Value} {h : Heap} {f : JFrame} {EL : List (String × Nat)}
theorem own_bodyHE {y : MethodName} {bytes : ByteArray} {maxL : Nat} {ret : Option FieldType} {ws : List Jvm.Cond} {rm : Room} {as' : Array Value} (hpl : plainFor y = true)
    (body : ∀ (p : Program) (e : Env) (s : State) (m : MethodId) (below : List Frame) (meth : Method) (c : Code) (s₁ : State), p.tables.exec = Jvm.exec → Z.Warmed39 (s.setVm s.vm).vm → c.code = bytes → c.maxLocals = maxL → (s.setVm s.vm).vm.findClass y.cls = some m.cls → meth.name = y.name → meth.sig.returnType = ret → meth.locks = false →
      Stand p l e rm (s.setVm s.vm) m as' below meth c s₁ [] 0 0 → s₁.heap = h → s.Since s.vm 0 → CHr Z EL s.vm s.heap s.vm h → own_End p e below (own_PH Z EL below s Q rm.cells rm.slots) s₁ (entryFrame m as' maxL)) : own_MetHE EL l Z y bytes maxL ret ws rm as' h Q := by
  refine MetFree.of_bodySF hpl hisR ?_
  intro p e s m args below meth c s₁ Bd hml0 hP hK
  obtain ⟨rfl, hZ, hh, hC⟩ := hP
  exact body p e s m below meth c s₁ Bd.exec hZ Bd.bytes hml0 (findClass_of_methodNamed Bd.named) (name_of_methodNamed Bd.named Bd.method).1 Bd.returns Bd.notSynchronized (Stand.of_body Bd) (by rw [← hh, Bd.state]; rfl) ((State.WarmedH.refl s).since 0) (by rw [hh]; exact CHr.refl hC)
theorem own_bodyWHE {y : MethodName} {bytes : ByteArray} {maxL : Nat} {ret : Option FieldType} {ws : List Jvm.Cond} {rm : Room} {as' : Array Value} (hpl : plainFor y = true)
    (body : ∀ (p : Program) (e : Env) (s : State) (m : MethodId) (below : List Frame) (meth : Method) (c : Code) (s₁ : State), p.tables.exec = Jvm.exec → Z.Warmed39 (s.setVm s.vm).vm → c.code = bytes → c.maxLocals = maxL → (s.setVm s.vm).vm.findClass y.cls = some m.cls → meth.name = y.name → meth.sig.returnType = ret → meth.locks = false →
      Stand p l e rm (s.setVm s.vm) m as' below meth c s₁ [] 0 0 → s₁.heap = h → s.Since s.vm 0 → CHv Z EL s.vm h → own_End p e below (own_PW below s Q rm.cells rm.slots) s₁ (entryFrame m as' maxL)) : own_MetWHE EL l Z y bytes maxL ret ws rm as' h Q := by
  refine MetFree.of_bodySF hpl hisR ?_
  intro p e s m args below meth c s₁ Bd hml0 hP hK
  obtain ⟨rfl, hZ, hh, hC⟩ := hP
  exact body p e s m below meth c s₁ Bd.exec hZ Bd.bytes hml0 (findClass_of_methodNamed Bd.named) (name_of_methodNamed Bd.named Bd.method).1 Bd.returns Bd.notSynchronized (Stand.of_body Bd) (by rw [← hh, Bd.state]; rfl) ((State.WarmedH.refl s).since 0) hC
theorem own_retNH (X : Stand p l e R (s.setVm vm0) m args below meth c T locs cells slots) (hP : P = own_PH Z EL below s Q kc ns) (hx : p.tables.exec = Jvm.exec) (hlk : meth.locks = false) (eT : T.heap = h) (hS : s.Since vm0 k0) (hk0 : k0 ≤ h.size) (hZ : Z.Warmed39 vm0) (w : EW Z a0 EL) (C : CHr Z EL s.vm s.heap vm0 h) {pc : Nat} {Ls : Array Slot} {z : Int32} {rest : List Value} {t : FieldType} (hret : meth.sig.returnType = some t) (ht : t = .boolean ∨ t = .byte ∨ t = .char ∨ t = .short) (hd : decode c.code pc = .ok (.ireturn, 1)) (hk : cells ≤ kc) (hn : slots ≤ ns) {z' : Int32} (hz : nar t z = z') (hQ : Q (some (.int z')) h locs) :
    own_End p e below P T (mkF m pc Ls (.int z :: rest)) := by
  subst hz
  obtain ⟨fs, hr, hrun, hended, hE⟩ := X.leaveW hS (by rw [eT]; exact hk0) (v := some (.int (nar t z))) (fun h => by rw [hret] at h; cases h) hlk
  subst hP
  have C2 : CHr Z EL s.vm s.heap T.vm T.heap := by rw [eT]; exact C.trans (CHv.at X hZ w C.1)
  exact ⟨_, _, retN X hx hret ht hd hr, hrun, hended, _, _, rfl, (eT ▸ hQ : Q _ T.heap locs), C2, hE.1, hE.2.1, hE.2.2.1, hE.2.2.2.mono hk hn⟩
theorem own_callSHE (X : Stand p l e R (s.setVm vm0) m args below meth c T locs cells slots) (hx : p.tables.exec = Jvm.exec) (hZ : Z.Warmed39 (s.setVm vm0).vm) {own : String} (hown : (s.setVm vm0).vm.findClass own = some m.cls) (eT : T.heap = h) (hS : s.Since vm0 k0) (hk0 : k0 ≤ h.size) (hEL : EW Z a0 EL) (H : CHv Z EL vm0 h) {index : Nat} {y : MethodName} {bytes : ByteArray} {maxL : Nat} {ret : Option FieldType} {rm : Room} {as' : Array Value} {Q' : Option Value → Heap → List Loc → Prop}
    (w1 : (Cond.methodLink own index y).before a0 Z = true) (w2 : (Cond.static y).before a0 Z = true) (w3 : (Cond.initialized y.cls).before a0 Z = true) (w4 : (Cond.code y bytes maxL ret).before a0 Z = true) (hy : y.cls ≠ "java/lang/invoke/MethodHandle" ∧ y.cls ≠ "java/lang/invoke/VarHandle")
    (hM : own_MetHE EL l Z y bytes maxL ret [] rm as' h Q') {g : JFrame} (hg : g.method = m) (hsize : g.locals.size = c.maxLocals) {argsL rest : List Value} (hlen : ∀ sig, parseMethodDescriptor y.desc = some sig → argsL.length = sig.parameters.length) (hstack : g.stack = argsL.reverse ++ rest) (has : argsL.toArray = as') {W : Nat} (hW : 2 * g.monitorRoom + (rest.map fun v => v.category).sum ≤ W) (hdg : decode c.code g.pc = .ok (.invokestatic index, 3))
    (hf : rm.frames + 1 ≤ R.frames) (hl : W + (maxL + 11) + rm.locals ≤ R.locals) (hc : cells + rm.cells ≤ R.cells) (hs : slots + rm.slots ≤ R.slots)
    (k : ∀ v T' L, Stand p l e R (s.setVm T'.vm) m args below meth c T' (locs ++ L) (cells + rm.cells) (slots + rm.slots) → Z.Warmed39 (s.setVm T'.vm).vm → (s.setVm T'.vm).vm.findClass own = some m.cls → s.Since T'.vm T'.heap.size → CHr Z EL vm0 h T'.vm T'.heap → Q' v T'.heap L → own_End p e below P T' { g with pc := g.pc + 3, stack := v.toList ++ rest }) : own_End p e below P T g := by
  obtain ⟨v, vm1, ⟨T', L1, k1, n1⟩, -, X', hS2, hg2, ⟨L, hQ, l1, y1, z1, hC⟩, st⟩ := callSS X hx (y := y) hown (mvT hZ w1) (mvT hZ w2) (mvT hZ w3) (mvT hZ w4) hy (backOfSH (W := W) hM hZ w4 w3 hf hl hEL H) hg hsize hlen hstack hW hdg (fun _ _ => ⟨has, eT, hc, hs⟩)
  dsimp only [Pt.U, Pt.locs, Pt.cells, Pt.slots] at X' l1 y1 z1 st hQ hS2 hg2 hC
  subst l1 y1 z1
  obtain ⟨X3, hS3, hZ3, hown3⟩ := rebS hS (by rw [eT]; exact hk0) X' hS2 hg2 hZ hown
  exact own_via st (k v T' L X3 hZ3 hown3 hS3 hC hQ)
end OwnHeld
theorem own_A_of_arv {Z : State} {h : Heap} {b : Addr} {k : ClassId} {z : Int32} {L : List Int32} {n : Nat} (A : Arv Z h b k .byte z (L.map Value.int) (.int 0)) (hz : z.toInt = (n : Int)) : own_AB Z h b n (fun i => L.getD i 0) := by
  obtain ⟨c, A, -, S, -, H, -⟩ := A
  rw [own_nat hz] at S
  have := z.toInt_lt
  refine ⟨c, A, S, by omega, fun i hi => ?_⟩
  rw [H i (by omega)]
  congr 1
  simp only [List.getD_eq_getElem?_getD, List.getElem?_map]
  cases L[i]? <;> rfl

/-! plain: hex digits, the line, the parsed bytes -/
def own_hx (b : Int32) : Int32 := if b < (48 : Int32) then (-1 : Int32) else if (57 : Int32) < b then (if b < (97 : Int32) then (if b < (65 : Int32) then (-1 : Int32) else if (70 : Int32) < b then (-1 : Int32) else b - (65 : Int32) + (10 : Int32)) else if (102 : Int32) < b then (-1 : Int32) else b - (97 : Int32) + (10 : Int32)) else b - (48 : Int32)
def own_hf (i : Nat) : Int32 := own_hx (Int32.ofNat i)
def own_byte (x : Int32) : Prop := -128 ≤ x.toInt ∧ x.toInt ≤ 127
theorem own_i2b (x : Int32) : x.toInt8.toInt32.toInt8.toInt32 = x.toInt8.toInt32 := by simp
theorem own_byte_of (x : Int32) : own_byte x.toInt8.toInt32 := by
  unfold own_byte
  rw [Int8.toInt_toInt32]
  have h1 := x.toInt8.toInt_lt; have h2 := x.toInt8.le_toInt
  constructor <;> omega
theorem own_hxf {b : Int32} (hb : own_byte b) (h : ¬ b < (0 : Int32)) : own_hf b.toInt.toNat = own_hx b := by
  unfold own_hf
  have e : Int32.ofNat b.toInt.toNat = b := by
    apply Int32.toInt_inj.mp
    rw [Int32.lt_iff_toInt_lt, show (0 : Int32).toInt = 0 from rfl] at h
    rw [Int32.toInt_ofNat_of_lt (by have := b.toInt_lt; omega)]; omega
  rw [e]
theorem own_hxneg {b : Int32} (h : b < (0 : Int32)) : own_hx b = (-1 : Int32) := by
  unfold own_hx; rw [if_pos]
  rw [Int32.lt_iff_toInt_lt] at *; have e : (0 : Int32).toInt = 0 := rfl; have e2 : (48 : Int32).toInt = 48 := rfl; omega
theorem own_ixb {b : Int32} (h : ¬ b < (0 : Int32)) : b.toInt = (b.toInt.toNat : Int) := by
  rw [Int32.lt_iff_toInt_lt, show (0 : Int32).toInt = 0 from rfl] at h; omega
theorem own_ixb2 {b : Int32} (hb : own_byte b) : b.toInt.toNat < 128 := by have := hb.2; omega
theorem own_lt22 {x : Int32} {i : Nat} (h : x.toInt = (i : Int)) (hi : i < 22) : x < (22 : Int32) := by
  rw [Int32.lt_iff_toInt_lt, h, show (22 : Int32).toInt = 22 from rfl]; omega
theorem own_ix22 (x : Int32) : ((x &&& (2147483647 : Int32)) % (22 : Int32)).toInt = ((((x &&& (2147483647 : Int32)) % (22 : Int32)).toInt.toNat : Nat) : Int) ∧ ((x &&& (2147483647 : Int32)) % (22 : Int32)).toInt.toNat < 22 := by
  have e : (x &&& (2147483647 : Int32)).toInt = x.toInt % 2 ^ 31 := Jvm.Kit.i32_mask x 2147483647 (k := 31) (by decide) (by decide)
  have q : ((x &&& (2147483647 : Int32)) % (22 : Int32)).toInt = (x.toInt % 2 ^ 31).tmod 22 := by rw [Int32.toInt_mod, e]; rfl
  rw [q]
  have h1 : 0 ≤ x.toInt % 2 ^ 31 := Int.emod_nonneg _ (by decide)
  rw [Int.tmod_eq_emod_of_nonneg h1]
  omega
def own_pv (f : Nat → Int32) (k i : Nat) : Int32 := ((own_hx (f (k + 2 * i)) <<< ((4 : Int32) &&& 31)) ||| own_hx (f (k + 2 * i + 1))).toInt8.toInt32
def own_bad (f : Nat → Int32) (k : Nat) : Nat → Int32
  | 0 => 0
  | j + 1 => own_bad f k j ||| (own_hx (f (k + 2 * j)) ||| own_hx (f (k + 2 * j + 1)))
theorem own_neg_msb (x : Int32) : x < (0 : Int32) ↔ x.toBitVec.msb = true := by
  rw [Int32.lt_iff_toInt_lt, show (0 : Int32).toInt = 0 from rfl]
  show x.toBitVec.toInt < 0 ↔ _
  rw [BitVec.msb_eq_toInt]; simp
theorem own_neg_or (x y : Int32) : (x ||| y) < (0 : Int32) ↔ x < (0 : Int32) ∨ y < (0 : Int32) := by
  rw [own_neg_msb, own_neg_msb, own_neg_msb, Int32.toBitVec_or, BitVec.msb_or]; simp
theorem own_bad_iff (f : Nat → Int32) (k n : Nat) : own_bad f k n < (0 : Int32) ↔ ∃ j, j < n ∧ (own_hx (f (k + 2 * j)) < (0 : Int32) ∨ own_hx (f (k + 2 * j + 1)) < (0 : Int32)) := by
  induction n with
  | zero => simp only [own_bad]; constructor
            · intro h; exact absurd h (by decide)
            · rintro ⟨j, h, -⟩; omega
  | succ n ih =>
    simp only [own_bad]
    rw [own_neg_or, own_neg_or, ih]
    constructor
    · rintro (⟨j, h1, h2⟩ | h)
      · exact ⟨j, by omega, h2⟩
      · exact ⟨n, by omega, h⟩
    · rintro ⟨j, h1, h2⟩
      by_cases q : j = n
      · subst q; exact Or.inr h2
      · exact Or.inl ⟨j, by omega, h2⟩
theorem own_pvs {f g : Nat → Int32} {k j : Nat} (hg : ∀ q, q < j → g q = own_pv f k q) : ∀ q, q < j + 1 → (fun i => if i = j then ((own_hx (f (k + 2 * j)) <<< ((4 : Int32) &&& 31)) ||| own_hx (f (k + 2 * j + 1))).toInt8.toInt32.toInt8.toInt32 else g i) q = own_pv f k q := by
  intro q hq
  show (if q = j then _ else g q) = _
  by_cases e : q = j
  · subst e; rw [if_pos rfl, own_i2b]; rfl
  · rw [if_neg e]; exact hg q (by omega)
theorem own_lt16 {ii : Int32} {j : Nat} (hj : ii.toInt = (j : Int)) (h : ii < (16 : Int32)) : j < 16 := by
  rw [Int32.lt_iff_toInt_lt, hj, show (16 : Int32).toInt = 16 from rfl] at h; omega
theorem own_eq16 {ii : Int32} {j : Nat} (hj : ii.toInt = (j : Int)) (h : ¬ ii < (16 : Int32)) (hj16 : j ≤ 16) : j = 16 := by
  rw [Int32.lt_iff_toInt_lt, hj, show (16 : Int32).toInt = 16 from rfl] at h; omega
theorem own_adds {x y : Int32} {a b : Int} (hx : x.toInt = a) (hy : y.toInt = b) (h1 : -2147483648 ≤ a + b) (h2 : a + b < 2147483648) : (x + y).toInt = a + b := by
  rw [Int32.toInt_add, hx, hy]; exact Int.bmod_eq_of_le (by omega) (by omega)
theorem own_muls {x y : Int32} {a b : Int} (hx : x.toInt = a) (hy : y.toInt = b) (h1 : -2147483648 ≤ a * b) (h2 : a * b < 2147483648) : (x * y).toInt = a * b := by
  rw [Int32.toInt_mul, hx, hy]; exact Int.bmod_eq_of_le (by omega) (by omega)
theorem own_ixl {x y : Int32} {k i : Nat} (hk : x.toInt = (k : Int)) (hk3 : k ≤ 3) (hi : y.toInt = (i : Int)) (hi15 : i ≤ 15) : (x + ((2 : Int32) * y)).toInt = ((k + 2 * i : Nat) : Int) := by
  have e : ((2 : Int32) * y).toInt = 2 * (i : Int) := own_muls rfl hi (by omega) (by omega)
  rw [own_adds hk e (by omega) (by omega)]; omega
theorem own_ixl1 {x y : Int32} {k i : Nat} (hk : x.toInt = (k : Int)) (hk3 : k ≤ 3) (hi : y.toInt = (i : Int)) (hi15 : i ≤ 15) : ((x + ((2 : Int32) * y)) + (1 : Int32)).toInt = ((k + 2 * i + 1 : Nat) : Int) := by
  rw [own_adds (own_ixl hk hk3 hi hi15) (show (1 : Int32).toInt = 1 from rfl) (by omega) (by omega)]; omega
theorem own_ix32 {x : Int32} {k : Nat} (hk : x.toInt = (k : Int)) (hk3 : k ≤ 3) : (x + (32 : Int32)).toInt = ((k + 32 : Nat) : Int) := by
  rw [own_adds hk (show (32 : Int32).toInt = 32 from rfl) (by omega) (by omega)]; omega
theorem own_ixm {x : Int32} {k : Nat} (hk : x.toInt = (k : Int)) (hk3 : k ≤ 3) (h : (0 : Int32) < x) : (x - (1 : Int32)).toInt = ((k - 1 : Nat) : Int) := by
  rw [Int32.lt_iff_toInt_lt, hk, show (0 : Int32).toInt = 0 from rfl] at h
  rw [Int32.toInt_sub, hk, show (1 : Int32).toInt = 1 from rfl, Int.bmod_eq_of_le (by omega) (by omega)]; omega
theorem own_inc1 {ii : Int32} {j : Nat} (hj : ii.toInt = (j : Int)) (h : j < 16) : (ii + (1 : Int32)).toInt = ((j + 1 : Nat) : Int) := by
  rw [own_adds hj (show (1 : Int32).toInt = 1 from rfl) (by omega) (by omega)]; omega
theorem own_and3 {z x : Int32} (h : z = x &&& (3 : Int32)) : ∃ k : Nat, z.toInt = (k : Int) ∧ k ≤ 3 := by
  have e : (x &&& (3 : Int32)).toInt = x.toInt % 2 ^ 2 := Jvm.Kit.i32_mask x 3 (k := 2) (by decide) (by decide)
  subst h; refine ⟨(x.toInt % 2 ^ 2).toNat, ?_, ?_⟩ <;> omega
theorem own_and15 {z x : Int32} (h : z = x &&& (15 : Int32)) : ∃ k : Nat, z.toInt = (k : Int) ∧ k ≤ 15 := by
  have e : (x &&& (15 : Int32)).toInt = x.toInt % 2 ^ 4 := Jvm.Kit.i32_mask x 15 (k := 4) (by decide) (by decide)
  subst h; refine ⟨(x.toInt % 2 ^ 4).toNat, ?_, ?_⟩ <;> omega
theorem own_nl (x n : Int32) (h : ¬ (32 : Int32) = (2 : Int32) * n) : ¬ (x + (32 : Int32)) - x = (2 : Int32) * n := by
  have e : (x + (32 : Int32)) - x = (32 : Int32) := by
    apply Int32.toBitVec_inj.mp
    rw [Int32.toBitVec_sub, Int32.toBitVec_add]
    apply BitVec.eq_of_toNat_eq
    rw [BitVec.toNat_sub, BitVec.toNat_add]
    have := x.toBitVec.isLt
    show _ = 32
    have e2 : (32 : Int32).toBitVec.toNat = 32 := rfl
    rw [e2]; omega
  rw [e]; exact h
def own_goodB (x : Int32) : Bool := decide (¬ own_hx x < (0 : Int32)) && decide (-128 ≤ x.toInt) && decide (x.toInt ≤ 127)
def own_lineP (fl : Nat → Int32) (k kp : Nat) (hb lb : Int32) : Prop := fl (k + 2 * kp) = hb ∧ fl (k + 2 * kp + 1) = lb ∧ (∀ j, j < 36 → own_byte (fl j)) ∧ ∀ j, k ≤ j → j < k + 32 → j ≠ k + 2 * kp → j ≠ k + 2 * kp + 1 → ¬ own_hx (fl j) < (0 : Int32)
theorem own_lp2 {f : Nat → Int32} {k kp : Nat} {hb lb : Int32} (h : ∀ j, j < 36 → own_goodB (f j) = true) (hk : k ≤ 3) (hkp : kp ≤ 15) (h1 : own_byte hb) (h2 : own_byte lb) (e1 : hb.toInt8.toInt32 = hb) (e2 : lb.toInt8.toInt32 = lb) : own_lineP (fun q => if q = k + 2 * kp + 1 then lb.toInt8.toInt32 else (fun q => if q = k + 2 * kp then hb.toInt8.toInt32 else f q) q) k kp hb lb := by
  have g : ∀ j, j < 36 → (¬ own_hx (f j) < (0 : Int32)) ∧ own_byte (f j) := fun j hj => by
    have := h j hj; simp only [own_goodB, Bool.and_eq_true, decide_eq_true_eq] at this; exact ⟨this.1.1, this.1.2, this.2⟩
  refine ⟨?_, ?_, fun j hj => ?_, fun j a b c d => ?_⟩
  · dsimp only; rw [if_neg (by omega), if_pos rfl, e1]
  · dsimp only; rw [if_pos rfl, e2]
  · dsimp only; split
    · rw [e2]; exact h2
    · split
      · rw [e1]; exact h1
      · exact (g j hj).2
  · dsimp only; rw [if_neg d, if_neg c]; exact (g j (by omega)).1
theorem own_lp3 {f : Nat → Int32} {k kp i : Nat} {hb lb x : Int32} (h : own_lineP f k kp hb lb) (hkp : kp ≤ 15) (hi : i < k ∨ k + 32 ≤ i) : own_lineP (fun q => if q = i then x.toInt8.toInt32 else f q) k kp hb lb := by
  obtain ⟨a, b, c, d⟩ := h
  refine ⟨?_, ?_, fun j hj => ?_, fun j q1 q2 q3 q4 => ?_⟩
  · dsimp only; rw [if_neg (by omega)]; exact a
  · dsimp only; rw [if_neg (by omega)]; exact b
  · dsimp only; split
    · exact own_byte_of x
    · exact c j hj
  · dsimp only; rw [if_neg (by omega)]; exact d j q1 q2 q3 q4
theorem own_bad_ok {f : Nat → Int32} {k kp : Nat} {hb lb : Int32} (h : own_lineP f k kp hb lb) (h1 : ¬ own_hx hb < (0 : Int32)) (h2 : ¬ own_hx lb < (0 : Int32)) : ¬ own_bad f k 16 < (0 : Int32) := by
  rw [own_bad_iff]
  rintro ⟨j, hj, q⟩
  obtain ⟨a, b, -, d⟩ := h
  by_cases e : j = kp
  · subst e; rw [a, b] at q; exact q.elim h1 h2
  · exact q.elim (d _ (by omega) (by omega) (by omega) (by omega)) (d _ (by omega) (by omega) (by omega) (by omega))
theorem own_bad_no {f : Nat → Int32} {k kp : Nat} {hb lb : Int32} (h : own_lineP f k kp hb lb) (hkp : kp ≤ 15) (h1 : own_hx hb < (0 : Int32) ∨ own_hx lb < (0 : Int32)) : own_bad f k 16 < (0 : Int32) := by
  rw [own_bad_iff]
  exact ⟨kp, by omega, by rw [h.1, h.2.1]; exact h1⟩
theorem own_pv_at {f : Nat → Int32} {k kp : Nat} {hb lb : Int32} (h : own_lineP f k kp hb lb) : own_pv f k kp = ((own_hx hb <<< ((4 : Int32) &&& 31)) ||| own_hx lb).toInt8.toInt32 := by
  unfold own_pv; rw [h.1, h.2.1]
theorem own_hxr {b X : Int32} (h : own_hx b = X) : own_hx b = X := h
theorem own_l48 : (48 : Int32).toInt = 48 := rfl
theorem own_l57 : (57 : Int32).toInt = 57 := rfl
theorem own_l65 : (65 : Int32).toInt = 65 := rfl
theorem own_l70 : (70 : Int32).toInt = 70 := rfl
theorem own_l97 : (97 : Int32).toInt = 97 := rfl
theorem own_l102 : (102 : Int32).toInt = 102 := rfl
theorem own_posk {x : Int32} {k : Nat} (hk : x.toInt = (k : Int)) (h : (0 : Int32) < x) : 0 < k := by
  rw [Int32.lt_iff_toInt_lt, hk, show (0 : Int32).toInt = 0 from rfl] at h; omega
/-! own: the table HEX_DIGITS as the sheet pins it -/
theorem own_or_e {args : Array Value} {s : State} {idx : List Nat} {a b : Jvm.Cond} (h : (Jvm.Cond.or a b).value args s none s idx = some true) : a.value args s none s idx = some true ∨ b.value args s none s idx = some true := by
  simp only [Jvm.Cond.value] at h
  split at h
  · exact Or.inr h
  · exact Or.inl h
theorem own_ile {args : Array Value} {s : State} {i : Nat} {n : Int32} (hi : i < 128) (h : (Jvm.Cond.le (Jvm.Term.int n) (Jvm.Term.index 0)).value args s none s [i] = some true) : n.toInt ≤ (i : Int) := by
  simp only [Jvm.Cond.value, Jvm.Term.eval, List.getElem?_cons_zero, Option.map_some, Option.some.injEq, decide_eq_true_eq] at h
  rw [Int32.le_iff_toInt_le] at h
  have e : (i.toInt32).toInt = (i : Int) := Int32.toInt_ofNat_of_lt (by omega)
  omega
theorem own_ilt {args : Array Value} {s : State} {i : Nat} {n : Int32} (hi : i < 128) (h : (Jvm.Cond.lt (Jvm.Term.index 0) (Jvm.Term.int n)).value args s none s [i] = some true) : (i : Int) < n.toInt := by
  simp only [Jvm.Cond.value, Jvm.Term.eval, List.getElem?_cons_zero, Option.map_some, Option.some.injEq, decide_eq_true_eq] at h
  rw [Int32.lt_iff_toInt_lt] at h
  have e : (i.toInt32).toInt = (i : Int) := Int32.toInt_ofNat_of_lt (by omega)
  omega
theorem own_eqv {args : Array Value} {s : State} {idx : List Nat} {a b : Jvm.Term} {y : Int32} (h : (Jvm.Cond.eq a b).value args s none s idx = some true) (hb : b.eval args s none idx s = some (.int y)) : a.eval args s none idx s = some (.int y) := by
  simp only [Jvm.Cond.value, hb] at h
  split at h <;> simp_all
theorem own_elemv {args : Array Value} {s : State} {t : Jvm.Term} {a : Addr} {cl : Cell} {i : Nat} {v : Value} (hi : i < 128) (ev : t.eval args s none [i] s = some (.ref a)) (ha : s.arrayAt? a = some cl) (h : (Jvm.Term.elem t (Jvm.Term.index 0)).eval args s none [i] s = some v) : cl.slots[i]? = some v := by
  have e : (i.toInt32).toInt = (i : Int) := Int32.toInt_ofNat_of_lt (by omega)
  have n1 : ¬ i.toInt32 < 0 := by rw [Int32.lt_iff_toInt_lt, e, show (0 : Int32).toInt = 0 from rfl]; omega
  rw [elem_f ev (j := i.toInt32) (by simp [Jvm.Term.eval]) ha n1, own_nat e] at h
  exact h
theorem own_subv {args : Array Value} {s : State} {i : Nat} {n : Int32} : (Jvm.Term.sub (Jvm.Term.index 0) (Jvm.Term.int n)).eval args s none [i] s = some (.int (Int32.ofNat i - n)) := by
  simp [Jvm.Term.eval]
theorem own_hft : ∀ i, i < 128 → (i < 48 → own_hf i = -1) ∧ (48 ≤ i → i < 58 → own_hf i = Int32.ofNat i - 48) ∧ (58 ≤ i → i < 65 → own_hf i = -1) ∧ (65 ≤ i → i < 71 → own_hf i = Int32.ofNat i - 55) ∧ (71 ≤ i → i < 97 → own_hf i = -1) ∧ (97 ≤ i → i < 103 → own_hf i = Int32.ofNat i - 87) ∧ (103 ≤ i → own_hf i = -1) := by decide +kernel
theorem own_lenv {args : Array Value} {s : State} {t : Jvm.Term} {a : Addr} {cl : Cell} (ev : t.eval args s none [] s = some (.ref a)) (hat : s.arrayAt? a = some cl) (h : (Jvm.Term.length t).eval args s none [] s = some (.int (128 : Int32))) : cl.slots.size = 128 := by
  simp only [Jvm.Term.eval, ev, hat, Option.bind_eq_bind, Option.bind_some] at h
  split at h
  · rename_i q
    simp only [Option.pure_def, Option.some.injEq, Value.int.injEq] at h
    have e : (cl.slots.size.toInt32).toInt = (cl.slots.size : Int) := Int32.toInt_ofNat_of_lt q
    rw [h, show (128 : Int32).toInt = 128 from rfl] at e; omega
  · cases h
theorem own_hexA {args : Array Value} {Z : State} {C n d : String} {a : Addr} (ev : (Jvm.Term.static C n d).eval args Z none [] Z = some (.ref a)) (ha : (Jvm.Cond.arrayOf (Jvm.Term.static C n d) .byte).value args Z none Z [] = some true) (hl : (Jvm.Cond.eq (Jvm.Term.length (Jvm.Term.static C n d)) (Jvm.Term.int (128 : Int32))).value args Z none Z [] = some true)
    (c1 : (Jvm.Cond.all (Jvm.Term.static C n d) (Jvm.Cond.or (Jvm.Cond.le (Jvm.Term.int (48 : Int32)) (Jvm.Term.index 0)) (Jvm.Cond.eq (Jvm.Term.elem (Jvm.Term.static C n d) (Jvm.Term.index 0)) (Jvm.Term.int (-1 : Int32))))).value args Z none Z [] = some true)
    (c2 : (Jvm.Cond.all (Jvm.Term.static C n d) (Jvm.Cond.or (Jvm.Cond.lt (Jvm.Term.index 0) (Jvm.Term.int (48 : Int32))) (Jvm.Cond.or (Jvm.Cond.le (Jvm.Term.int (58 : Int32)) (Jvm.Term.index 0)) (Jvm.Cond.eq (Jvm.Term.elem (Jvm.Term.static C n d) (Jvm.Term.index 0)) (Jvm.Term.sub (Jvm.Term.index 0) (Jvm.Term.int (48 : Int32))))))).value args Z none Z [] = some true)
    (c3 : (Jvm.Cond.all (Jvm.Term.static C n d) (Jvm.Cond.or (Jvm.Cond.lt (Jvm.Term.index 0) (Jvm.Term.int (58 : Int32))) (Jvm.Cond.or (Jvm.Cond.le (Jvm.Term.int (65 : Int32)) (Jvm.Term.index 0)) (Jvm.Cond.eq (Jvm.Term.elem (Jvm.Term.static C n d) (Jvm.Term.index 0)) (Jvm.Term.int (-1 : Int32)))))).value args Z none Z [] = some true)
    (c4 : (Jvm.Cond.all (Jvm.Term.static C n d) (Jvm.Cond.or (Jvm.Cond.lt (Jvm.Term.index 0) (Jvm.Term.int (65 : Int32))) (Jvm.Cond.or (Jvm.Cond.le (Jvm.Term.int (71 : Int32)) (Jvm.Term.index 0)) (Jvm.Cond.eq (Jvm.Term.elem (Jvm.Term.static C n d) (Jvm.Term.index 0)) (Jvm.Term.sub (Jvm.Term.index 0) (Jvm.Term.int (55 : Int32))))))).value args Z none Z [] = some true)
    (c5 : (Jvm.Cond.all (Jvm.Term.static C n d) (Jvm.Cond.or (Jvm.Cond.lt (Jvm.Term.index 0) (Jvm.Term.int (71 : Int32))) (Jvm.Cond.or (Jvm.Cond.le (Jvm.Term.int (97 : Int32)) (Jvm.Term.index 0)) (Jvm.Cond.eq (Jvm.Term.elem (Jvm.Term.static C n d) (Jvm.Term.index 0)) (Jvm.Term.int (-1 : Int32)))))).value args Z none Z [] = some true)
    (c6 : (Jvm.Cond.all (Jvm.Term.static C n d) (Jvm.Cond.or (Jvm.Cond.lt (Jvm.Term.index 0) (Jvm.Term.int (97 : Int32))) (Jvm.Cond.or (Jvm.Cond.le (Jvm.Term.int (103 : Int32)) (Jvm.Term.index 0)) (Jvm.Cond.eq (Jvm.Term.elem (Jvm.Term.static C n d) (Jvm.Term.index 0)) (Jvm.Term.sub (Jvm.Term.index 0) (Jvm.Term.int (87 : Int32))))))).value args Z none Z [] = some true)
    (c7 : (Jvm.Cond.all (Jvm.Term.static C n d) (Jvm.Cond.or (Jvm.Cond.lt (Jvm.Term.index 0) (Jvm.Term.int (103 : Int32))) (Jvm.Cond.eq (Jvm.Term.elem (Jvm.Term.static C n d) (Jvm.Term.index 0)) (Jvm.Term.int (-1 : Int32))))).value args Z none Z [] = some true) : own_AB Z Z.heap a 128 own_hf := by
  obtain ⟨cl, A⟩ := Arr.start ev ha
  have hat : Z.arrayAt? a = some cl := IntBox.arrayAt_of A.1 A.2.1 A.2.2
  have hlen := own_eqv hl (y := 128) rfl
  have hsz : cl.slots.size = 128 := own_lenv ev hat hlen
  have evi : ∀ idx, (Jvm.Term.static C n d).eval args Z none idx Z = some (.ref a) := fun idx => by rw [← ev]; simp only [Jvm.Term.eval]
  refine ⟨cl, A, hsz, by decide, fun i hi => ?_⟩
  have al := fun {q : Jvm.Cond} (h : (Jvm.Cond.all (Jvm.Term.static C n d) q).value args Z none Z [] = some true) => Cond.all_elim ev hat h i (by omega)
  have T := own_hft i hi
  have L1 : ∀ z : Int32, (Jvm.Term.int z).eval args Z none [i] Z = some (.int z) := fun _ => rfl
  have fin : ∀ {b : Jvm.Term} {y : Int32}, (Jvm.Cond.eq (Jvm.Term.elem (Jvm.Term.static C n d) (Jvm.Term.index 0)) b).value args Z none Z [i] = some true → b.eval args Z none [i] Z = some (.int y) → own_hf i = y → cl.slots[i]? = some (.int (own_hf i)) := fun h hb e => by
    rw [e]; exact own_elemv hi (evi _) hat (own_eqv h hb)
  have n48 : (48 : Int32).toInt = 48 := rfl
  have n58 : (58 : Int32).toInt = 58 := rfl
  have n65 : (65 : Int32).toInt = 65 := rfl
  have n71 : (71 : Int32).toInt = 71 := rfl
  have n97 : (97 : Int32).toInt = 97 := rfl
  have n103 : (103 : Int32).toInt = 103 := rfl
  by_cases z1 : i < 48
  · rcases own_or_e (al c1) with h | h
    · have := own_ile hi h; omega
    exact fin h (L1 _) (T.1 z1)
  by_cases z2 : i < 58
  · rcases own_or_e (al c2) with h | h
    · have := own_ilt hi h; omega
    rcases own_or_e h with h | h
    · have := own_ile hi h; omega
    exact fin h own_subv (T.2.1 (by omega) z2)
  by_cases z3 : i < 65
  · rcases own_or_e (al c3) with h | h
    · have := own_ilt hi h; omega
    rcases own_or_e h with h | h
    · have := own_ile hi h; omega
    exact fin h (L1 _) (T.2.2.1 (by omega) z3)
  by_cases z4 : i < 71
  · rcases own_or_e (al c4) with h | h
    · have := own_ilt hi h; omega
    rcases own_or_e h with h | h
    · have := own_ile hi h; omega
    exact fin h own_subv (T.2.2.2.1 (by omega) z4)
  by_cases z5 : i < 97
  · rcases own_or_e (al c5) with h | h
    · have := own_ilt hi h; omega
    rcases own_or_e h with h | h
    · have := own_ile hi h; omega
    exact fin h (L1 _) (T.2.2.2.2.1 (by omega) z5)
  by_cases z6 : i < 103
  · rcases own_or_e (al c6) with h | h
    · have := own_ilt hi h; omega
    rcases own_or_e h with h | h
    · have := own_ile hi h; omega
    exact fin h own_subv (T.2.2.2.2.2.1 (by omega) z6)
  rcases own_or_e (al c7) with h | h
  · have := own_ilt hi h; omega
  exact fin h (L1 _) (T.2.2.2.2.2.2 (by omega))

def own_EL : List (String × Nat) := [("com/example/longhold/longhold/bagit/ChecksumAlgorithmParsePinLaw", 7)]
def own_tl : List Int32 := "0123456789abcdefABCDEF".toList.map fun c => Jvm.Lit.byteI c.toNat.toUInt16
def own_tx (i : Nat) : Int32 := own_tl.getD i 0
theorem own_tlh : (∀ c ∈ "0123456789abcdefABCDEF".toList, c.toNat < 256) ∧ "0123456789abcdefABCDEF".toList.map (fun c => Value.int (Jvm.Lit.byteI c.toNat.toUInt16)) = own_tl.map Value.int := ⟨by decide, by unfold own_tl; rw [List.map_map]; rfl⟩
theorem own_EW {Z : State} {aw : Array Value} (hw : ∀ d ∈ tables_1, d.before aw Z = true) : EW Z aw own_EL := EW.cons (hw _ (List.mem_of_getElem? (i := 27) rfl)) (by decide) EW.nil
def own_dv (p0 p1 : Int32) : Int32 := nar .byte ((if p1 = (0 : Int32) then p0 else (nar .char (nar .char ((own_tx ((p0 &&& (2147483647 : Int32)) % (22 : Int32)).toInt.toNat &&& (255 : Int32)).toUInt32.toUInt16.toUInt32.toInt32)))).toInt8.toInt32)
theorem own_dvb (p0 p1 : Int32) : own_byte (own_dv p0 p1) ∧ (own_dv p0 p1).toInt8.toInt32 = own_dv p0 p1 := by
  have e : own_dv p0 p1 = (if p1 = (0 : Int32) then p0 else (nar .char (nar .char ((own_tx ((p0 &&& (2147483647 : Int32)) % (22 : Int32)).toInt.toNat &&& (255 : Int32)).toUInt32.toUInt16.toUInt32.toInt32)))).toInt8.toInt32.toInt8.toInt32 := rfl
  rw [e, own_i2b, own_i2b]; exact ⟨own_byte_of _, rfl⟩
theorem pn_0 : plainName "jdk/internal/util/Preconditions" = true := by first | (simp [plainName, overriddenIn]; done) | decide +kernel
theorem d9_0 : decode jdk_41_method_11_code 0 = .ok (.iload_n 0, 1) := by decide +kernel
theorem d9_1 : decode jdk_41_method_11_code 1 = .ok (.ifCond .lt 8, 3) := by decide +kernel
theorem d9_4 : decode jdk_41_method_11_code 4 = .ok (.iload_n 0, 1) := by decide +kernel
theorem d9_5 : decode jdk_41_method_11_code 5 = .ok (.iload_n 1, 1) := by decide +kernel
theorem d9_6 : decode jdk_41_method_11_code 6 = .ok (.if_icmp .lt 10, 3) := by decide +kernel
theorem d9_16 : decode jdk_41_method_11_code 16 = .ok (.iload_n 0, 1) := by decide +kernel
theorem d9_17 : decode jdk_41_method_11_code 17 = .ok (.ireturn, 1) := by decide +kernel
set_option maxRecDepth 65536 in
set_option maxHeartbeats 4000000 in
theorem ef_9 (m : MethodId) (p0 : Int32) (p1 : Int32) (vw2 : Value) (hcat_vw2 : vw2.category = 1) : entryFrame m #[(.int p0), (.int p1), vw2] 3 = mkF m 0 #[.val (.int p0), .val (.int p1), .val vw2] [] := by first | (simp [entryFrame, mkF, argsToLocals, Value.category]; done) | rfl | (cases vw2 <;> first | rfl | (simp [Value.category] at hcat_vw2))
set_option maxRecDepth 65536 in
set_option maxHeartbeats 40000000 in
theorem rm9 (l : Launch) (Z : State) (aw : Array Value) (hw : ∀ d ∈ tables_1, d.before aw Z = true) {ws : List Jvm.Cond} (p0 : Int32) (p1 : Int32) (vw2 : Value)  (h0 : Heap) (n0 : Nat) (Z0 : n0 ≤ h0.size) (hcat_vw2 : vw2.category = 1) (h1 : ¬ p0 < (0 : Int32)) (h2 : p0 < p1) :
    own_Met l Z (⟨"jdk/internal/util/Preconditions", "checkIndex", "(IILjava/util/function/BiFunction;)I"⟩ : MethodName) jdk_41_method_11_code 3 (some .int) ws ({ frames := 0, cells := 0, slots := 0, locals := 0 } : Room) #[(.int p0), (.int p1), vw2] h0 (own_Pq (some (.int p0)) h0) := by
  refine own_body (plainFor_of_name pn_0) ?_
  intro p e s m below meth c s₁ hx hZ hby hml hown hnm hret hlk X0 e0
  replace hown : s.vm.findClass "jdk/internal/util/Preconditions" = some m.cls := hown
  replace hml : c.maxLocals = 3 := hml
  obtain ⟨P, hP⟩ : ∃ P, P = own_P below s (own_Pq (some (.int p0)) h0) ({ frames := 0, cells := 0, slots := 0, locals := 0 } : Room).cells ({ frames := 0, cells := 0, slots := 0, locals := 0 } : Room).slots := ⟨_, rfl⟩
  rw [← hP]
  refine own_cast (ef_9 m p0 p1 vw2 hcat_vw2) ?_
  refine own_go (T' := s₁) (f' := (mkF m 17 #[.val (.int p0), .val (.int p1), .val vw2] [(.int p0)])) (fun t kt => ?_) ?_
  · show Steps p.tables e below (s₁.setTop (mkF m 0 #[.val (.int p0), .val (.int p1), .val vw2] [])) t
    refine XS.iloadN X0.here hx rfl (hb hby d9_0) rfl ?_
    show Steps p.tables e below (s₁.setTop (mkF m 1 #[.val (.int p0), .val (.int p1), .val vw2] [(.int p0)])) t
    refine XS.ifNo X0.here hx rfl (hb hby d9_1) rfl ((if0 _ _).trans (flt (show ¬ (p0 < (0 : Int32)) from h1)).1) ?_
    show Steps p.tables e below (s₁.setTop (mkF m 4 #[.val (.int p0), .val (.int p1), .val vw2] [])) t
    refine XS.iloadN X0.here hx rfl (hb hby d9_4) rfl ?_
    show Steps p.tables e below (s₁.setTop (mkF m 5 #[.val (.int p0), .val (.int p1), .val vw2] [(.int p0)])) t
    refine XS.iloadN X0.here hx rfl (hb hby d9_5) rfl ?_
    show Steps p.tables e below (s₁.setTop (mkF m 6 #[.val (.int p0), .val (.int p1), .val vw2] [(.int p1), (.int p0)])) t
    refine XS.icmpYes X0.here hx rfl (pc0 := 6) (pc' := 16) rfl (hb hby d9_6) rfl (tlt (show p0 < p1 from h2)).1 (by decide) (by decide) ?_
    show Steps p.tables e below (s₁.setTop (mkF m 16 #[.val (.int p0), .val (.int p1), .val vw2] [])) t
    refine XS.iloadN X0.here hx rfl (hb hby d9_16) rfl ?_
    show Steps p.tables e below (s₁.setTop (mkF m 17 #[.val (.int p0), .val (.int p1), .val vw2] [(.int p0)])) t
    exact kt
  exact own_retI X0 hP hx hlk e0 hret (hb hby d9_17) (by decide) (by decide) ⟨rfl, rfl, rfl⟩
theorem pd_0 : parseMethodDescriptor "(IILjava/util/function/BiFunction;)I" = some ⟨[.int, .int, (.object "java/util/function/BiFunction")], some .int⟩ := by decide +kernel
theorem pn_1 : plainName "java/lang/String" = true := by first | (simp [plainName, overriddenIn]; done) | decide +kernel
theorem d8_0 : decode jdk_42_method_155_code 0 = .ok (.iload_n 0, 1) := by decide +kernel
theorem d8_1 : decode jdk_42_method_155_code 1 = .ok (.iload_n 1, 1) := by decide +kernel
theorem d8_2 : decode jdk_42_method_155_code 2 = .ok (.getstatic 1053, 3) := by decide +kernel
theorem d8_5 : decode jdk_42_method_155_code 5 = .ok (.invokestatic 1059, 3) := by decide +kernel
theorem d8_8 : decode jdk_42_method_155_code 8 = .ok (.pop, 1) := by decide +kernel
theorem d8_9 : decode jdk_42_method_155_code 9 = .ok (.return_, 1) := by decide +kernel
set_option maxRecDepth 65536 in
set_option maxHeartbeats 4000000 in
theorem ef_8 (m : MethodId) (p0 : Int32) (p1 : Int32)  : entryFrame m #[(.int p0), (.int p1)] 2 = mkF m 0 #[.val (.int p0), .val (.int p1)] [] := by first | (simp [entryFrame, mkF, argsToLocals, Value.category]; done) | rfl
set_option maxRecDepth 65536 in
set_option maxHeartbeats 40000000 in
theorem rm8 (l : Launch) (Z : State) (aw : Array Value) (hw : ∀ d ∈ tables_1, d.before aw Z = true) {ws : List Jvm.Cond} (p0 : Int32) (p1 : Int32) (vb : Value) (h0 : Heap) (n0 : Nat) (Z0 : n0 ≤ h0.size) (SI : Sta Z h0 "jdk/internal/util/Preconditions" "SIOOBE_FORMATTER" "Ljava/util/function/BiFunction;" vb) (hcat : vb.category = 1) (h1 : ¬ p0 < (0 : Int32)) (h2 : p0 < p1) :
    own_Met l Z (⟨"java/lang/String", "checkIndex", "(II)V"⟩ : MethodName) jdk_42_method_155_code 2 none ws ({ frames := 1, cells := 0, slots := 0, locals := 14 } : Room) #[(.int p0), (.int p1)] h0 (own_Pq none h0) := by
  refine own_body (plainFor_of_name pn_1) ?_
  intro p e s m below meth c s₁ hx hZ hby hml hown hnm hret hlk X0 e0
  replace hown : s.vm.findClass "java/lang/String" = some m.cls := hown
  replace hml : c.maxLocals = 2 := hml
  obtain ⟨P, hP⟩ : ∃ P, P = own_P below s (own_Pq none h0) ({ frames := 1, cells := 0, slots := 0, locals := 14 } : Room).cells ({ frames := 1, cells := 0, slots := 0, locals := 14 } : Room).slots := ⟨_, rfl⟩
  rw [← hP]
  refine own_cast (ef_8 m p0 p1) ?_
  refine own_go (T' := s₁) (f' := (mkF m 2 #[.val (.int p0), .val (.int p1)] [(.int p1), (.int p0)])) (fun t kt => ?_) ?_
  · show Steps p.tables e below (s₁.setTop (mkF m 0 #[.val (.int p0), .val (.int p1)] [])) t
    refine XS.iloadN X0.here hx rfl (hb hby d8_0) rfl ?_
    show Steps p.tables e below (s₁.setTop (mkF m 1 #[.val (.int p0), .val (.int p1)] [(.int p0)])) t
    refine XS.iloadN X0.here hx rfl (hb hby d8_1) rfl ?_
    show Steps p.tables e below (s₁.setTop (mkF m 2 #[.val (.int p0), .val (.int p1)] [(.int p1), (.int p0)])) t
    exact kt
  obtain ⟨T1, X1, e1, st1⟩ := getS2 X0 hx hZ hown (host := "") (Or.inl (hw _ (List.mem_of_getElem? (i := 55) rfl))) Via.refl e0 SI (g := (mkF m 2 #[.val (.int p0), .val (.int p1)] [(.int p1), (.int p0)])) rfl (hb hby d8_2)
  refine own_go st1 ?_
  refine own_callSp X1 hx hZ hown e1 (hw _ (List.mem_of_getElem? (i := 57) rfl)) (hw _ (List.mem_of_getElem? (i := 58) rfl)) (hw _ (List.mem_of_getElem? (i := 56) rfl)) (hw _ (List.mem_of_getElem? (i := 59) rfl)) (by decide) (rm9 l Z aw hw p0 p1 vb h0 n0 Z0 hcat h1 h2) (g := (mkF m 5 #[.val (.int p0), .val (.int p1)] [vb, (.int p1), (.int p0)])) rfl (by rw [hml]; rfl) (argsL := [(.int p0), (.int p1), vb]) (rest := []) (lenOf pd_0 rfl) rfl rfl (W := 0) (by show 2 * 0 + _ ≤ _; exact Nat.le_of_eq rfl) (hb hby d8_5) (by decide) (by decide) (by decide) (by decide) ?_
  intro T2 X2 e2
  refine own_go (T' := T2) (f' := (mkF m 9 #[.val (.int p0), .val (.int p1)] [])) (fun t kt => ?_) ?_
  · show Steps p.tables e below (T2.setTop (mkF m 8 #[.val (.int p0), .val (.int p1)] [(.int p0)])) t
    refine XS.pop X2.here hx rfl (hb hby d8_8) rfl rfl ?_
    show Steps p.tables e below (T2.setTop (mkF m 9 #[.val (.int p0), .val (.int p1)] [])) t
    exact kt
  exact own_retV X2 hP hx hlk e2 hret (hb hby d8_9) (by decide) (by decide) ⟨rfl, rfl, rfl⟩
theorem pd_1 : parseMethodDescriptor "(II)V" = some ⟨[.int, .int], none⟩ := by decide +kernel
theorem pn_2 : plainName "java/lang/StringLatin1" = true := by first | (simp [plainName, overriddenIn]; done) | decide +kernel
theorem d7_0 : decode jdk_43_method_2_code 0 = .ok (.iload_n 1, 1) := by decide +kernel
theorem d7_1 : decode jdk_43_method_2_code 1 = .ok (.aload_n 0, 1) := by decide +kernel
theorem d7_2 : decode jdk_43_method_2_code 2 = .ok (.arraylength, 1) := by decide +kernel
theorem d7_3 : decode jdk_43_method_2_code 3 = .ok (.invokestatic 9, 3) := by decide +kernel
theorem d7_6 : decode jdk_43_method_2_code 6 = .ok (.aload_n 0, 1) := by decide +kernel
theorem d7_7 : decode jdk_43_method_2_code 7 = .ok (.iload_n 1, 1) := by decide +kernel
theorem d7_8 : decode jdk_43_method_2_code 8 = .ok (.baload, 1) := by decide +kernel
theorem d7_9 : decode jdk_43_method_2_code 9 = .ok (.sipush 255, 3) := by decide +kernel
theorem d7_12 : decode jdk_43_method_2_code 12 = .ok (.iand, 1) := by decide +kernel
theorem d7_13 : decode jdk_43_method_2_code 13 = .ok (.i2c, 1) := by decide +kernel
theorem d7_14 : decode jdk_43_method_2_code 14 = .ok (.ireturn, 1) := by decide +kernel
set_option maxRecDepth 65536 in
set_option maxHeartbeats 4000000 in
theorem ef_7 (m : MethodId) (a0 : Addr) (p1 : Int32)  : entryFrame m #[(.ref a0), (.int p1)] 2 = mkF m 0 #[.val (.ref a0), .val (.int p1)] [] := by first | (simp [entryFrame, mkF, argsToLocals, Value.category]; done) | rfl
set_option maxRecDepth 65536 in
set_option maxHeartbeats 40000000 in
theorem rm7 (l : Launch) (Z : State) (aw : Array Value) (hw : ∀ d ∈ tables_1, d.before aw Z = true) {ws : List Jvm.Cond} (a0 : Addr) (p1 : Int32) (f : Nat → Int32) (i : Nat) (vb : Value) (h0 : Heap) (n0 : Nat) (Z0 : n0 ≤ h0.size) (Ar_a0 : own_AB Z h0 a0 22 f) (hi : p1.toInt = (i : Int)) (ki : i < 22) (SI : Sta Z h0 "jdk/internal/util/Preconditions" "SIOOBE_FORMATTER" "Ljava/util/function/BiFunction;" vb) (hcat : vb.category = 1) :
    own_Met l Z (⟨"java/lang/StringLatin1", "charAt", "([BI)C"⟩ : MethodName) jdk_43_method_2_code 2 (some .char) ws ({ frames := 2, cells := 0, slots := 0, locals := 27 } : Room) #[(.ref a0), (.int p1)] h0 (own_Pq (some (.int (nar .char ((f i &&& (255 : Int32)).toUInt32.toUInt16.toUInt32.toInt32)))) h0) := by
  refine own_body (plainFor_of_name pn_2) ?_
  intro p e s m below meth c s₁ hx hZ hby hml hown hnm hret hlk X0 e0
  replace hown : s.vm.findClass "java/lang/StringLatin1" = some m.cls := hown
  replace hml : c.maxLocals = 2 := hml
  obtain ⟨P, hP⟩ : ∃ P, P = own_P below s (own_Pq (some (.int (nar .char ((f i &&& (255 : Int32)).toUInt32.toUInt16.toUInt32.toInt32)))) h0) ({ frames := 2, cells := 0, slots := 0, locals := 27 } : Room).cells ({ frames := 2, cells := 0, slots := 0, locals := 27 } : Room).slots := ⟨_, rfl⟩
  rw [← hP]
  refine own_cast (ef_7 m a0 p1) ?_
  refine own_go (T' := s₁) (f' := (mkF m 2 #[.val (.ref a0), .val (.int p1)] [(.ref a0), (.int p1)])) (fun t kt => ?_) ?_
  · show Steps p.tables e below (s₁.setTop (mkF m 0 #[.val (.ref a0), .val (.int p1)] [])) t
    refine XS.iloadN X0.here hx rfl (hb hby d7_0) rfl ?_
    show Steps p.tables e below (s₁.setTop (mkF m 1 #[.val (.ref a0), .val (.int p1)] [(.int p1)])) t
    refine XS.aloadN X0.here hx rfl (hb hby d7_1) rfl rfl ?_
    show Steps p.tables e below (s₁.setTop (mkF m 2 #[.val (.ref a0), .val (.int p1)] [(.ref a0), (.int p1)])) t
    exact kt
  have st1 := own_length X0 hx hZ e0 Ar_a0 (z := (22 : Int32)) (by decide) (g := (mkF m 2 #[.val (.ref a0), .val (.int p1)] [(.ref a0), (.int p1)])) rfl rfl (hb hby d7_2)
  refine own_go st1 ?_
  refine own_callSp X0 hx hZ hown e0 (hw _ (List.mem_of_getElem? (i := 52) rfl)) (hw _ (List.mem_of_getElem? (i := 53) rfl)) (hw _ (List.mem_of_getElem? (i := 28) rfl)) (hw _ (List.mem_of_getElem? (i := 54) rfl)) (by decide) (rm8 l Z aw hw p1 (22 : Int32) vb h0 n0 Z0 SI hcat (own_negn hi) (own_lt22 hi ki)) (g := (mkF m 3 #[.val (.ref a0), .val (.int p1)] [(.int (22 : Int32)), (.int p1)])) rfl (by rw [hml]; rfl) (argsL := [(.int p1), (.int (22 : Int32))]) (rest := []) (lenOf pd_1 rfl) rfl rfl (W := 0) (by show 2 * 0 + _ ≤ _; exact Nat.le_of_eq rfl) (hb hby d7_3) (by decide) (by decide) (by decide) (by decide) ?_
  intro T2 X2 e2
  refine own_go (T' := T2) (f' := (mkF m 14 #[.val (.ref a0), .val (.int p1)] [(.int (((f i) &&& (255 : Int32)).toUInt32.toUInt16.toUInt32.toInt32))])) (fun t kt => ?_) ?_
  · show Steps p.tables e below (T2.setTop (mkF m 6 #[.val (.ref a0), .val (.int p1)] [])) t
    refine XS.aloadN X2.here hx rfl (hb hby d7_6) rfl rfl ?_
    show Steps p.tables e below (T2.setTop (mkF m 7 #[.val (.ref a0), .val (.int p1)] [(.ref a0)])) t
    refine XS.iloadN X2.here hx rfl (hb hby d7_7) rfl ?_
    show Steps p.tables e below (T2.setTop (mkF m 8 #[.val (.ref a0), .val (.int p1)] [(.int p1), (.ref a0)])) t
    refine own_baload X2 hx hZ e2 Ar_a0 (i := i) hi ki (g := (mkF m 8 #[.val (.ref a0), .val (.int p1)] [(.int p1), (.ref a0)])) rfl rfl (hb hby d7_8) _ ?_
    show Steps p.tables e below (T2.setTop (mkF m 9 #[.val (.ref a0), .val (.int p1)] [(.int (f i))])) t
    refine XS.sipush X2.here hx rfl (hb hby d7_9) ?_
    show Steps p.tables e below (T2.setTop (mkF m 12 #[.val (.ref a0), .val (.int p1)] [(.int (255 : Int32)), (.int (f i))])) t
    refine XS.iand X2.here hx rfl (hb hby d7_12) rfl ?_
    show Steps p.tables e below (T2.setTop (mkF m 13 #[.val (.ref a0), .val (.int p1)] [(.int ((f i) &&& (255 : Int32)))])) t
    refine XS.i2c X2.here hx rfl (hb hby d7_13) rfl ?_
    show Steps p.tables e below (T2.setTop (mkF m 14 #[.val (.ref a0), .val (.int p1)] [(.int (((f i) &&& (255 : Int32)).toUInt32.toUInt16.toUInt32.toInt32))])) t
    exact kt
  exact own_retN X2 hP hx hlk e2 (t := .char) hret (by simp) (hb hby d7_14) (by decide) (by decide) (z' := _) rfl ⟨rfl, rfl, rfl⟩
theorem d6_0 : decode jdk_42_method_154_code 0 = .ok (.getstatic 38, 3) := by decide +kernel
theorem d6_3 : decode jdk_42_method_154_code 3 = .ok (.ifCond .eq 14, 3) := by decide +kernel
theorem d6_6 : decode jdk_42_method_154_code 6 = .ok (.aload_n 0, 1) := by decide +kernel
theorem d6_7 : decode jdk_42_method_154_code 7 = .ok (.getfield 15, 3) := by decide +kernel
theorem d6_10 : decode jdk_42_method_154_code 10 = .ok (.ifCond .ne 7, 3) := by decide +kernel
theorem d6_13 : decode jdk_42_method_154_code 13 = .ok (.iconst 1, 1) := by decide +kernel
theorem d6_14 : decode jdk_42_method_154_code 14 = .ok (.goto 4, 3) := by decide +kernel
theorem d6_18 : decode jdk_42_method_154_code 18 = .ok (.ireturn, 1) := by decide +kernel
set_option maxRecDepth 65536 in
set_option maxHeartbeats 4000000 in
theorem ef_6 (m : MethodId) (a0 : Addr)  : entryFrame m #[(.ref a0)] 1 = mkF m 0 #[.val (.ref a0)] [] := by first | (simp [entryFrame, mkF, argsToLocals, Value.category]; done) | rfl
set_option maxRecDepth 65536 in
set_option maxHeartbeats 40000000 in
theorem rm6 (l : Launch) (Z : State) (aw : Array Value) (hw : ∀ d ∈ tables_1, d.before aw Z = true) {ws : List Jvm.Cond} (a0 : Addr) (zc : Int32) (h0 : Heap) (n0 : Nat) (Z0 : n0 ≤ h0.size) (F_a0_coder : Fld Z h0 a0 "java/lang/String" "coder" "B" (.int (0 : Int32))) (SC : Sta Z h0 "java/lang/String" "COMPACT_STRINGS" "Z" (.int zc)) (hzc : ¬ zc = (0 : Int32)) :
    own_Met l Z (⟨"java/lang/String", "isLatin1", "()Z"⟩ : MethodName) jdk_42_method_154_code 1 (some .boolean) ws ({ frames := 0, cells := 0, slots := 0, locals := 0 } : Room) #[(.ref a0)] h0 (own_Pq (some (.int (1 : Int32))) h0) := by
  refine own_body (plainFor_of_name pn_1) ?_
  intro p e s m below meth c s₁ hx hZ hby hml hown hnm hret hlk X0 e0
  replace hown : s.vm.findClass "java/lang/String" = some m.cls := hown
  replace hml : c.maxLocals = 1 := hml
  obtain ⟨P, hP⟩ : ∃ P, P = own_P below s (own_Pq (some (.int (1 : Int32))) h0) ({ frames := 0, cells := 0, slots := 0, locals := 0 } : Room).cells ({ frames := 0, cells := 0, slots := 0, locals := 0 } : Room).slots := ⟨_, rfl⟩
  rw [← hP]
  refine own_cast (ef_6 m a0) ?_
  obtain ⟨T1, X1, e1, st1⟩ := getS2 X0 hx hZ hown (host := "") (Or.inl (hw _ (List.mem_of_getElem? (i := 45) rfl))) Via.refl e0 SC (g := (mkF m 0 #[.val (.ref a0)] [])) rfl (hb hby d6_0)
  refine own_go st1 ?_
  refine own_go (T' := T1) (f' := (mkF m 7 #[.val (.ref a0)] [(.ref a0)])) (fun t kt => ?_) ?_
  · show Steps p.tables e below (T1.setTop (mkF m 3 #[.val (.ref a0)] [(.int zc)])) t
    refine XS.ifNo X1.here hx rfl (hb hby d6_3) rfl ((if0 _ _).trans (feq (show ¬ (zc = (0 : Int32)) from hzc)).1) ?_
    show Steps p.tables e below (T1.setTop (mkF m 6 #[.val (.ref a0)] [])) t
    refine XS.aloadN X1.here hx rfl (hb hby d6_6) rfl rfl ?_
    show Steps p.tables e below (T1.setTop (mkF m 7 #[.val (.ref a0)] [(.ref a0)])) t
    exact kt
  obtain ⟨T2, X2, e2, st2⟩ := getF X1 hx hZ hown (host := "") (Or.inl (hw _ (List.mem_of_getElem? (i := 46) rfl))) Via.refl e1 F_a0_coder (g := (mkF m 7 #[.val (.ref a0)] [(.ref a0)])) rfl rfl (hb hby d6_7)
  refine own_go st2 ?_
  refine own_go (T' := T2) (f' := (mkF m 18 #[.val (.ref a0)] [(.int (1 : Int32))])) (fun t kt => ?_) ?_
  · show Steps p.tables e below (T2.setTop (mkF m 10 #[.val (.ref a0)] [(.int (0 : Int32))])) t
    refine XS.ifNo X2.here hx rfl (hb hby d6_10) rfl (by decide) ?_
    show Steps p.tables e below (T2.setTop (mkF m 13 #[.val (.ref a0)] [])) t
    refine XS.iconst X2.here hx rfl (hb hby d6_13) ?_
    show Steps p.tables e below (T2.setTop (mkF m 14 #[.val (.ref a0)] [(.int (1 : Int32))])) t
    refine XS.goto X2.here hx rfl (pc0 := 14) (pc' := 18) rfl (hb hby d6_14) (by decide) (by decide) ?_
    show Steps p.tables e below (T2.setTop (mkF m 18 #[.val (.ref a0)] [(.int (1 : Int32))])) t
    exact kt
  exact own_retN X2 hP hx hlk e2 (t := .boolean) hret (by simp) (hb hby d6_18) (by decide) (by decide) (z' := (1 : Int32)) (by decide) ⟨rfl, rfl, rfl⟩
theorem pd_2 : parseMethodDescriptor "()Z" = some ⟨[], some .boolean⟩ := by decide +kernel
theorem pd_3 : parseMethodDescriptor "([BI)C" = some ⟨[(.array .byte), .int], some .char⟩ := by decide +kernel
theorem d5_0 : decode jdk_42_method_56_code 0 = .ok (.aload_n 0, 1) := by decide +kernel
theorem d5_1 : decode jdk_42_method_56_code 1 = .ok (.invokevirtual 492, 3) := by decide +kernel
theorem d5_4 : decode jdk_42_method_56_code 4 = .ok (.ifCond .eq 12, 3) := by decide +kernel
theorem d5_7 : decode jdk_42_method_56_code 7 = .ok (.aload_n 0, 1) := by decide +kernel
theorem d5_8 : decode jdk_42_method_56_code 8 = .ok (.getfield 9, 3) := by decide +kernel
theorem d5_11 : decode jdk_42_method_56_code 11 = .ok (.iload_n 1, 1) := by decide +kernel
theorem d5_12 : decode jdk_42_method_56_code 12 = .ok (.invokestatic 495, 3) := by decide +kernel
theorem d5_15 : decode jdk_42_method_56_code 15 = .ok (.ireturn, 1) := by decide +kernel
set_option maxRecDepth 65536 in
set_option maxHeartbeats 4000000 in
theorem ef_5 (m : MethodId) (a0 : Addr) (p1 : Int32)  : entryFrame m #[(.ref a0), (.int p1)] 2 = mkF m 0 #[.val (.ref a0), .val (.int p1)] [] := by first | (simp [entryFrame, mkF, argsToLocals, Value.category]; done) | rfl
set_option maxRecDepth 65536 in
set_option maxHeartbeats 40000000 in
theorem rm5 (l : Launch) (Z : State) (aw : Array Value) (hw : ∀ d ∈ tables_1, d.before aw Z = true) {ws : List Jvm.Cond} (a0 : Addr) (p1 : Int32) (f : Nat → Int32) (i : Nat) (vb : Value) (zc : Int32) (bd : Addr) (h0 : Heap) (n0 : Nat) (Z0 : n0 ≤ h0.size) (E_a0 : Exa Z h0 a0 "java/lang/String") (F_a0_coder : Fld Z h0 a0 "java/lang/String" "coder" "B" (.int (0 : Int32))) (F_a0_value : Fld Z h0 a0 "java/lang/String" "value" "[B" (.ref bd)) (Ar_bd : own_AB Z h0 bd 22 f) (hi : p1.toInt = (i : Int)) (ki : i < 22) (SI : Sta Z h0 "jdk/internal/util/Preconditions" "SIOOBE_FORMATTER" "Ljava/util/function/BiFunction;" vb) (hcat : vb.category = 1) (SC : Sta Z h0 "java/lang/String" "COMPACT_STRINGS" "Z" (.int zc)) (hzc : ¬ zc = (0 : Int32)) :
    own_Met l Z (⟨"java/lang/String", "charAt", "(I)C"⟩ : MethodName) jdk_42_method_56_code 2 (some .char) ws ({ frames := 3, cells := 0, slots := 0, locals := 40 } : Room) #[(.ref a0), (.int p1)] h0 (own_Pq (some (.int (nar .char (nar .char ((f i &&& (255 : Int32)).toUInt32.toUInt16.toUInt32.toInt32))))) h0) := by
  refine own_body (plainFor_of_name pn_1) ?_
  intro p e s m below meth c s₁ hx hZ hby hml hown hnm hret hlk X0 e0
  replace hown : s.vm.findClass "java/lang/String" = some m.cls := hown
  replace hml : c.maxLocals = 2 := hml
  obtain ⟨P, hP⟩ : ∃ P, P = own_P below s (own_Pq (some (.int (nar .char (nar .char ((f i &&& (255 : Int32)).toUInt32.toUInt16.toUInt32.toInt32))))) h0) ({ frames := 3, cells := 0, slots := 0, locals := 40 } : Room).cells ({ frames := 3, cells := 0, slots := 0, locals := 40 } : Room).slots := ⟨_, rfl⟩
  rw [← hP]
  refine own_cast (ef_5 m a0 p1) ?_
  refine own_go (T' := s₁) (f' := (mkF m 1 #[.val (.ref a0), .val (.int p1)] [(.ref a0)])) (fun t kt => ?_) ?_
  · show Steps p.tables e below (s₁.setTop (mkF m 0 #[.val (.ref a0), .val (.int p1)] [])) t
    refine XS.aloadN X0.here hx rfl (hb hby d5_0) rfl rfl ?_
    show Steps p.tables e below (s₁.setTop (mkF m 1 #[.val (.ref a0), .val (.int p1)] [(.ref a0)])) t
    exact kt
  refine own_callVp X0 hx hZ hown e0 (hw _ (List.mem_of_getElem? (i := 40) rfl)) (hw _ (List.mem_of_getElem? (i := 41) rfl)) (notFace_of_selects (args := #[]) (mvT hZ (hw _ (List.mem_of_getElem? (i := 43) rfl)))) (hw _ (List.mem_of_getElem? (i := 43) rfl)) (hw _ (List.mem_of_getElem? (i := 42) rfl)) (hw _ (List.mem_of_getElem? (i := 28) rfl)) (hw _ (List.mem_of_getElem? (i := 44) rfl)) (by decide) (rm6 l Z aw hw a0 zc h0 n0 Z0 F_a0_coder SC hzc) E_a0 (g := (mkF m 1 #[.val (.ref a0), .val (.int p1)] [(.ref a0)])) rfl (by rw [hml]; rfl) (argsL := []) (rest := []) (lenOf pd_2 rfl) rfl rfl (W := 0) (by show 2 * 0 + _ ≤ _; exact Nat.le_of_eq rfl) (hb hby d5_1) (by decide) (by decide) (by decide) (by decide) ?_
  intro T1 X1 e1
  refine own_go (T' := T1) (f' := (mkF m 8 #[.val (.ref a0), .val (.int p1)] [(.ref a0)])) (fun t kt => ?_) ?_
  · show Steps p.tables e below (T1.setTop (mkF m 4 #[.val (.ref a0), .val (.int p1)] [(.int (1 : Int32))])) t
    refine XS.ifNo X1.here hx rfl (hb hby d5_4) rfl (by decide) ?_
    show Steps p.tables e below (T1.setTop (mkF m 7 #[.val (.ref a0), .val (.int p1)] [])) t
    refine XS.aloadN X1.here hx rfl (hb hby d5_7) rfl rfl ?_
    show Steps p.tables e below (T1.setTop (mkF m 8 #[.val (.ref a0), .val (.int p1)] [(.ref a0)])) t
    exact kt
  obtain ⟨T2, X2, e2, st2⟩ := getF X1 hx hZ hown (host := "") (Or.inl (hw _ (List.mem_of_getElem? (i := 47) rfl))) Via.refl e1 F_a0_value (g := (mkF m 8 #[.val (.ref a0), .val (.int p1)] [(.ref a0)])) rfl rfl (hb hby d5_8)
  refine own_go st2 ?_
  refine own_go (T' := T2) (f' := (mkF m 12 #[.val (.ref a0), .val (.int p1)] [(.int p1), (.ref bd)])) (fun t kt => ?_) ?_
  · show Steps p.tables e below (T2.setTop (mkF m 11 #[.val (.ref a0), .val (.int p1)] [(.ref bd)])) t
    refine XS.iloadN X2.here hx rfl (hb hby d5_11) rfl ?_
    show Steps p.tables e below (T2.setTop (mkF m 12 #[.val (.ref a0), .val (.int p1)] [(.int p1), (.ref bd)])) t
    exact kt
  refine own_callSp X2 hx hZ hown e2 (hw _ (List.mem_of_getElem? (i := 48) rfl)) (hw _ (List.mem_of_getElem? (i := 49) rfl)) (hw _ (List.mem_of_getElem? (i := 50) rfl)) (hw _ (List.mem_of_getElem? (i := 51) rfl)) (by decide) (rm7 l Z aw hw bd p1 f i vb h0 n0 Z0 Ar_bd hi ki SI hcat) (g := (mkF m 12 #[.val (.ref a0), .val (.int p1)] [(.int p1), (.ref bd)])) rfl (by rw [hml]; rfl) (argsL := [(.ref bd), (.int p1)]) (rest := []) (lenOf pd_3 rfl) rfl rfl (W := 0) (by show 2 * 0 + _ ≤ _; exact Nat.le_of_eq rfl) (hb hby d5_12) (by decide) (by decide) (by decide) (by decide) ?_
  intro T3 X3 e3
  exact own_retN X3 hP hx hlk e3 (t := .char) hret (by simp) (hb hby d5_15) (by decide) (by decide) (z' := _) rfl ⟨rfl, rfl, rfl⟩
theorem own_wS {a0 : Array Value} {Z : State} (hw : ∀ d ∈ tables_1, d.before a0 Z = true) : ∀ a ∈ Bundle.stringAtoms, a.before a0 Z = true := by
  intro a ha
  simp only [Bundle.stringAtoms, List.mem_cons, List.not_mem_nil, or_false] at ha
  rcases ha with rfl | rfl | rfl | rfl | rfl | rfl | rfl
  · exact (hw _ (List.mem_of_getElem? (i := 28) rfl))
  · exact (hw _ (List.mem_of_getElem? (i := 29) rfl))
  · exact (hw _ (List.mem_of_getElem? (i := 0) rfl))
  · exact (hw _ (List.mem_of_getElem? (i := 30) rfl))
  · exact (hw _ (List.mem_of_getElem? (i := 31) rfl))
  · exact (hw _ (List.mem_of_getElem? (i := 32) rfl))
  · exact (hw _ (List.mem_of_getElem? (i := 33) rfl))
theorem pd_4 : parseMethodDescriptor "(I)C" = some ⟨[.int], some .char⟩ := by decide +kernel
theorem pn_3 : plainName "com/example/longhold/longhold/bagit/ChecksumAlgorithmParsePinLaw" = true := by first | (simp [plainName, overriddenIn]; done) | decide +kernel
theorem d1_0 : decode method_3_code 0 = .ok (.iload_n 1, 1) := by decide +kernel
theorem d1_1 : decode method_3_code 1 = .ok (.ifCond .eq 17, 3) := by decide +kernel
theorem d1_4 : decode method_3_code 4 = .ok (.ldc 7, 2) := by decide +kernel
theorem d1_6 : decode method_3_code 6 = .ok (.iload_n 0, 1) := by decide +kernel
theorem d1_7 : decode method_3_code 7 = .ok (.ldc 9, 2) := by decide +kernel
theorem d1_9 : decode method_3_code 9 = .ok (.iand, 1) := by decide +kernel
theorem d1_10 : decode method_3_code 10 = .ok (.bipush 22, 2) := by decide +kernel
theorem d1_12 : decode method_3_code 12 = .ok (.irem, 1) := by decide +kernel
theorem d1_13 : decode method_3_code 13 = .ok (.invokevirtual 10, 3) := by decide +kernel
theorem d1_16 : decode method_3_code 16 = .ok (.i2b, 1) := by decide +kernel
theorem d1_17 : decode method_3_code 17 = .ok (.ireturn, 1) := by decide +kernel
theorem d1_18 : decode method_3_code 18 = .ok (.iload_n 0, 1) := by decide +kernel
theorem d1_19 : decode method_3_code 19 = .ok (.i2b, 1) := by decide +kernel
theorem d1_20 : decode method_3_code 20 = .ok (.ireturn, 1) := by decide +kernel
set_option maxRecDepth 65536 in
set_option maxHeartbeats 4000000 in
theorem ef_1 (m : MethodId) (p0 : Int32) (p1 : Int32)  : entryFrame m #[(.int p0), (.int p1)] 2 = mkF m 0 #[.val (.int p0), .val (.int p1)] [] := by first | (simp [entryFrame, mkF, argsToLocals, Value.category]; done) | rfl
set_option maxRecDepth 65536 in
set_option maxHeartbeats 40000000 in
theorem rm1 (l : Launch) (Z : State) (aw : Array Value) (hw : ∀ d ∈ tables_1, d.before aw Z = true) {ws : List Jvm.Cond} (p0 : Int32) (p1 : Int32) (vb : Value) (zc : Int32) (h0 : Heap) (n0 : Nat) (Z0 : n0 ≤ h0.size) (SI : Sta Z h0 "jdk/internal/util/Preconditions" "SIOOBE_FORMATTER" "Ljava/util/function/BiFunction;" vb) (hcat : vb.category = 1) (SC : Sta Z h0 "java/lang/String" "COMPACT_STRINGS" "Z" (.int zc)) (hzc : ¬ zc = (0 : Int32)) :
    own_MetHE own_EL l Z (⟨"com/example/longhold/longhold/bagit/ChecksumAlgorithmParsePinLaw", "draw", "(IZ)B"⟩ : MethodName) method_3_code 2 (some .byte) ws ({ frames := 4, cells := 2, slots := 92, locals := 53 } : Room) #[(.int p0), (.int p1)] h0 (fun v h L => v = (some (.int (own_dv p0 p1))) ∧ Fr n0 L ∧ Keep h0 h []) := by
  refine own_bodyHE (plainFor_of_name pn_3) ?_
  intro p e s m below meth c s₁ hx hZ hby hml hown hnm hret hlk X0 e0 hS CR0
  replace hown : (s.setVm s.vm).vm.findClass "com/example/longhold/longhold/bagit/ChecksumAlgorithmParsePinLaw" = some m.cls := hown
  replace hml : c.maxLocals = 2 := hml
  have N0 := Fr.nil n0
  have K0 := Keep.refl h0 []
  obtain ⟨P, hP⟩ : ∃ P, P = own_PH Z own_EL below s (fun v h L => v = (some (.int (own_dv p0 p1))) ∧ Fr n0 L ∧ Keep h0 h []) ({ frames := 4, cells := 2, slots := 92, locals := 53 } : Room).cells ({ frames := 4, cells := 2, slots := 92, locals := 53 } : Room).slots := ⟨_, rfl⟩
  rw [← hP]
  refine own_cast (ef_1 m p0 p1) ?_
  refine own_go (T' := s₁) (f' := (mkF m 1 #[.val (.int p0), .val (.int p1)] [(.int p1)])) (fun t kt => ?_) ?_
  · show Steps p.tables e below (s₁.setTop (mkF m 0 #[.val (.int p0), .val (.int p1)] [])) t
    refine XS.iloadN X0.here hx rfl (hb hby d1_0) rfl ?_
    show Steps p.tables e below (s₁.setTop (mkF m 1 #[.val (.int p0), .val (.int p1)] [(.int p1)])) t
    exact kt
  by_cases hc1_1 : p1 = (0 : Int32)
  · refine own_go (T' := s₁) (f' := (mkF m 20 #[.val (.int p0), .val (.int p1)] [(.int (p0.toInt8.toInt32))])) (fun t kt => ?_) ?_
    · show Steps p.tables e below (s₁.setTop (mkF m 1 #[.val (.int p0), .val (.int p1)] [(.int p1)])) t
      refine XS.ifYes X0.here hx rfl (pc0 := 1) (pc' := 18) rfl (hb hby d1_1) rfl ((if0 _ _).trans (teq hc1_1).1) (by decide) (by decide) ?_
      show Steps p.tables e below (s₁.setTop (mkF m 18 #[.val (.int p0), .val (.int p1)] [])) t
      refine XS.iloadN X0.here hx rfl (hb hby d1_18) rfl ?_
      show Steps p.tables e below (s₁.setTop (mkF m 19 #[.val (.int p0), .val (.int p1)] [(.int p0)])) t
      refine XS.i2b X0.here hx rfl (hb hby d1_19) rfl ?_
      show Steps p.tables e below (s₁.setTop (mkF m 20 #[.val (.int p0), .val (.int p1)] [(.int (p0.toInt8.toInt32))])) t
      exact kt
    exact own_retNH X0 hP hx hlk e0 hS (Nat.zero_le _) hZ (own_EW hw) CR0 (t := .byte) hret (by simp) (hb hby d1_20) (by decide) (by decide) (z' := _) rfl ⟨(by rw [own_dv, if_pos hc1_1]), N0, K0⟩
  · refine own_go (T' := s₁) (f' := (mkF m 4 #[.val (.int p0), .val (.int p1)] [])) (fun t kt => ?_) ?_
    · show Steps p.tables e below (s₁.setTop (mkF m 1 #[.val (.int p0), .val (.int p1)] [(.int p1)])) t
      refine XS.ifNo X0.here hx rfl (hb hby d1_1) rfl ((if0 _ _).trans (feq hc1_1).1) ?_
      show Steps p.tables e below (s₁.setTop (mkF m 4 #[.val (.int p0), .val (.int p1)] [])) t
      exact kt
    obtain ⟨sa2, T2, h2, k2, bd2, kk2, X2, e2, E2, hS, kz2, hZ, hown, Es2, Fc2, Fv2, Av2, -, -, CQ2, -, -, st2⟩ := ldcCH (s := s) X0 hx hZ hown (hw _ (List.mem_of_getElem? (i := 27) rfl)) (own_wS hw) e0 hS (Nat.zero_le _) (own_EW hw) (by simp [own_EL]) CR0.1 (vs := own_tl.map Value.int) (z := (22 : Int32)) own_tlh (by decide) (by decide) (g := (mkF m 4 #[.val (.int p0), .val (.int p1)] [])) rfl (hb hby d1_4) (n := 88) (by decide) (by decide) (by decide) (by decide)
    refine own_go st2 ?_
    have ZE2 : n0 ≤ h2.size := Nat.le_trans Z0 E2.1
    have KKE2 := K0.ext E2
    have kzE2 := Nat.le_trans (Nat.zero_le _) E2.1
    have CR2 := CR0.trans CQ2
    have At2 : own_AB Z h2 bd2 22 own_tx := own_A_of_arv Av2 (by decide)
    refine own_go (T' := T2) (f' := (mkF m 13 #[.val (.int p0), .val (.int p1)] [(.int ((p0 &&& (2147483647 : Int32)) % (22 : Int32))), (.ref sa2)])) (fun t kt => ?_) ?_
    · show Steps p.tables e below (T2.setTop (mkF m 6 #[.val (.int p0), .val (.int p1)] [(.ref sa2)])) t
      refine XS.iloadN X2.here hx rfl (hb hby d1_6) rfl ?_
      show Steps p.tables e below (T2.setTop (mkF m 7 #[.val (.int p0), .val (.int p1)] [(.int p0), (.ref sa2)])) t
      refine X2.ldcInt hx hown (mvT hZ (hw _ (List.mem_of_getElem? (i := 34) rfl))) (g := (mkF m 7 #[.val (.int p0), .val (.int p1)] [(.int p0), (.ref sa2)])) rfl (hb hby d1_7) _ ?_
      show Steps p.tables e below (T2.setTop (mkF m 9 #[.val (.int p0), .val (.int p1)] [(.int (2147483647 : Int32)), (.int p0), (.ref sa2)])) t
      refine XS.iand X2.here hx rfl (hb hby d1_9) rfl ?_
      show Steps p.tables e below (T2.setTop (mkF m 10 #[.val (.int p0), .val (.int p1)] [(.int (p0 &&& (2147483647 : Int32))), (.ref sa2)])) t
      refine XS.bipush X2.here hx rfl (hb hby d1_10) ?_
      show Steps p.tables e below (T2.setTop (mkF m 12 #[.val (.int p0), .val (.int p1)] [(.int (22 : Int32)), (.int (p0 &&& (2147483647 : Int32))), (.ref sa2)])) t
      refine iremM X2 hx rfl (hb hby d1_12) rfl (by decide) ?_
      show Steps p.tables e below (T2.setTop (mkF m 13 #[.val (.int p0), .val (.int p1)] [(.int ((p0 &&& (2147483647 : Int32)) % (22 : Int32))), (.ref sa2)])) t
      exact kt
    refine own_callVp X2 hx hZ hown e2 (hw _ (List.mem_of_getElem? (i := 35) rfl)) (hw _ (List.mem_of_getElem? (i := 36) rfl)) (notFace_of_selects (args := #[]) (mvT hZ (hw _ (List.mem_of_getElem? (i := 38) rfl)))) (hw _ (List.mem_of_getElem? (i := 38) rfl)) (hw _ (List.mem_of_getElem? (i := 37) rfl)) (hw _ (List.mem_of_getElem? (i := 28) rfl)) (hw _ (List.mem_of_getElem? (i := 39) rfl)) (by decide) (rm5 l Z aw hw sa2 ((p0 &&& (2147483647 : Int32)) % (22 : Int32)) own_tx ((p0 &&& (2147483647 : Int32)) % (22 : Int32)).toInt.toNat vb zc bd2 h2 n0 ZE2 Es2 Fc2 Fv2 At2 (own_ix22 p0).1 (own_ix22 p0).2 (own_sta_keep SI KKE2) hcat (own_sta_keep SC KKE2) hzc) Es2 (g := (mkF m 13 #[.val (.int p0), .val (.int p1)] [(.int ((p0 &&& (2147483647 : Int32)) % (22 : Int32))), (.ref sa2)])) rfl (by rw [hml]; rfl) (argsL := [(.int ((p0 &&& (2147483647 : Int32)) % (22 : Int32)))]) (rest := []) (lenOf pd_4 rfl) rfl rfl (W := 0) (by show 2 * 0 + _ ≤ _; exact Nat.le_of_eq rfl) (hb hby d1_13) (by decide) (by decide) (by decide) (by decide) ?_
    intro T3 X3 e3
    refine own_go (T' := T3) (f' := (mkF m 17 #[.val (.int p0), .val (.int p1)] [(.int ((nar .char (nar .char ((own_tx ((p0 &&& (2147483647 : Int32)) % (22 : Int32)).toInt.toNat &&& (255 : Int32)).toUInt32.toUInt16.toUInt32.toInt32))).toInt8.toInt32))])) (fun t kt => ?_) ?_
    · show Steps p.tables e below (T3.setTop (mkF m 16 #[.val (.int p0), .val (.int p1)] [(.int (nar .char (nar .char ((own_tx ((p0 &&& (2147483647 : Int32)) % (22 : Int32)).toInt.toNat &&& (255 : Int32)).toUInt32.toUInt16.toUInt32.toInt32))))])) t
      refine XS.i2b X3.here hx rfl (hb hby d1_16) rfl ?_
      show Steps p.tables e below (T3.setTop (mkF m 17 #[.val (.int p0), .val (.int p1)] [(.int ((nar .char (nar .char ((own_tx ((p0 &&& (2147483647 : Int32)) % (22 : Int32)).toInt.toNat &&& (255 : Int32)).toUInt32.toUInt16.toUInt32.toInt32))).toInt8.toInt32))])) t
      exact kt
    exact own_retNH X3 hP hx hlk e3 hS kz2 hZ (own_EW hw) CR2 (t := .byte) hret (by simp) (hb hby d1_17) (by decide) (by decide) (z' := _) rfl ⟨(by rw [own_dv, if_neg hc1_1]), N0, KKE2⟩
theorem d4_0 : decode method_2_code 0 = .ok (.iload_n 0, 1) := by decide +kernel
theorem d4_1 : decode method_2_code 1 = .ok (.istore_n 1, 1) := by decide +kernel
theorem d4_2 : decode method_2_code 2 = .ok (.iload_n 1, 1) := by decide +kernel
theorem d4_3 : decode method_2_code 3 = .ok (.bipush 48, 2) := by decide +kernel
theorem d4_5 : decode method_2_code 5 = .ok (.if_icmp .lt 14, 3) := by decide +kernel
theorem d4_8 : decode method_2_code 8 = .ok (.iload_n 1, 1) := by decide +kernel
theorem d4_9 : decode method_2_code 9 = .ok (.bipush 57, 2) := by decide +kernel
theorem d4_11 : decode method_2_code 11 = .ok (.if_icmp .gt 8, 3) := by decide +kernel
theorem d4_14 : decode method_2_code 14 = .ok (.iload_n 1, 1) := by decide +kernel
theorem d4_15 : decode method_2_code 15 = .ok (.bipush 48, 2) := by decide +kernel
theorem d4_17 : decode method_2_code 17 = .ok (.isub, 1) := by decide +kernel
theorem d4_18 : decode method_2_code 18 = .ok (.ireturn, 1) := by decide +kernel
theorem d4_19 : decode method_2_code 19 = .ok (.iload_n 1, 1) := by decide +kernel
theorem d4_20 : decode method_2_code 20 = .ok (.bipush 97, 2) := by decide +kernel
theorem d4_22 : decode method_2_code 22 = .ok (.if_icmp .lt 17, 3) := by decide +kernel
theorem d4_25 : decode method_2_code 25 = .ok (.iload_n 1, 1) := by decide +kernel
theorem d4_26 : decode method_2_code 26 = .ok (.bipush 102, 2) := by decide +kernel
theorem d4_28 : decode method_2_code 28 = .ok (.if_icmp .gt 11, 3) := by decide +kernel
theorem d4_31 : decode method_2_code 31 = .ok (.iload_n 1, 1) := by decide +kernel
theorem d4_32 : decode method_2_code 32 = .ok (.bipush 97, 2) := by decide +kernel
theorem d4_34 : decode method_2_code 34 = .ok (.isub, 1) := by decide +kernel
theorem d4_35 : decode method_2_code 35 = .ok (.bipush 10, 2) := by decide +kernel
theorem d4_37 : decode method_2_code 37 = .ok (.iadd, 1) := by decide +kernel
theorem d4_38 : decode method_2_code 38 = .ok (.ireturn, 1) := by decide +kernel
theorem d4_39 : decode method_2_code 39 = .ok (.iload_n 1, 1) := by decide +kernel
theorem d4_40 : decode method_2_code 40 = .ok (.bipush 65, 2) := by decide +kernel
theorem d4_42 : decode method_2_code 42 = .ok (.if_icmp .lt 17, 3) := by decide +kernel
theorem d4_45 : decode method_2_code 45 = .ok (.iload_n 1, 1) := by decide +kernel
theorem d4_46 : decode method_2_code 46 = .ok (.bipush 70, 2) := by decide +kernel
theorem d4_48 : decode method_2_code 48 = .ok (.if_icmp .gt 11, 3) := by decide +kernel
theorem d4_51 : decode method_2_code 51 = .ok (.iload_n 1, 1) := by decide +kernel
theorem d4_52 : decode method_2_code 52 = .ok (.bipush 65, 2) := by decide +kernel
theorem d4_54 : decode method_2_code 54 = .ok (.isub, 1) := by decide +kernel
theorem d4_55 : decode method_2_code 55 = .ok (.bipush 10, 2) := by decide +kernel
theorem d4_57 : decode method_2_code 57 = .ok (.iadd, 1) := by decide +kernel
theorem d4_58 : decode method_2_code 58 = .ok (.ireturn, 1) := by decide +kernel
theorem d4_59 : decode method_2_code 59 = .ok (.iconst (-1), 1) := by decide +kernel
theorem d4_60 : decode method_2_code 60 = .ok (.ireturn, 1) := by decide +kernel
set_option maxRecDepth 65536 in
set_option maxHeartbeats 4000000 in
theorem ef_4 (m : MethodId) (p0 : Int32)  : entryFrame m #[(.int p0)] 2 = mkF m 0 #[.val (.int p0), .unset] [] := by first | (simp [entryFrame, mkF, argsToLocals, Value.category]; done) | rfl
set_option maxRecDepth 65536 in
set_option maxHeartbeats 40000000 in
theorem rm4 (l : Launch) (Z : State) (aw : Array Value) (hw : ∀ d ∈ tables_1, d.before aw Z = true) {ws : List Jvm.Cond} (p0 : Int32)  (h0 : Heap) (n0 : Nat) (Z0 : n0 ≤ h0.size)  :
    own_Met l Z (⟨"com/example/longhold/longhold/bagit/ChecksumAlgorithmParsePinLaw", "hexRef", "(B)I"⟩ : MethodName) method_2_code 2 (some .int) ws ({ frames := 0, cells := 0, slots := 0, locals := 0 } : Room) #[(.int p0)] h0 (own_Pq (some (.int (own_hx p0))) h0) := by
  refine own_body (plainFor_of_name pn_3) ?_
  intro p e s m below meth c s₁ hx hZ hby hml hown hnm hret hlk X0 e0
  replace hown : s.vm.findClass "com/example/longhold/longhold/bagit/ChecksumAlgorithmParsePinLaw" = some m.cls := hown
  replace hml : c.maxLocals = 2 := hml
  obtain ⟨P, hP⟩ : ∃ P, P = own_P below s (own_Pq (some (.int (own_hx p0))) h0) ({ frames := 0, cells := 0, slots := 0, locals := 0 } : Room).cells ({ frames := 0, cells := 0, slots := 0, locals := 0 } : Room).slots := ⟨_, rfl⟩
  rw [← hP]
  refine own_cast (ef_4 m p0) ?_
  refine own_go (T' := s₁) (f' := (mkF m 5 #[.val (.int p0), .val (.int p0)] [(.int (48 : Int32)), (.int p0)])) (fun t kt => ?_) ?_
  · show Steps p.tables e below (s₁.setTop (mkF m 0 #[.val (.int p0), .unset] [])) t
    refine XS.iloadN X0.here hx rfl (hb hby d4_0) rfl ?_
    show Steps p.tables e below (s₁.setTop (mkF m 1 #[.val (.int p0), .unset] [(.int p0)])) t
    refine XS.istoreN X0.here hx rfl (hb hby d4_1) rfl (l' := #[.val (.int p0), .val (.int p0)]) rfl ?_
    show Steps p.tables e below (s₁.setTop (mkF m 2 #[.val (.int p0), .val (.int p0)] [])) t
    refine XS.iloadN X0.here hx rfl (hb hby d4_2) rfl ?_
    show Steps p.tables e below (s₁.setTop (mkF m 3 #[.val (.int p0), .val (.int p0)] [(.int p0)])) t
    refine XS.bipush X0.here hx rfl (hb hby d4_3) ?_
    show Steps p.tables e below (s₁.setTop (mkF m 5 #[.val (.int p0), .val (.int p0)] [(.int (48 : Int32)), (.int p0)])) t
    exact kt
  by_cases hc5_1 : p0 < (48 : Int32)
  · refine own_go (T' := s₁) (f' := (mkF m 22 #[.val (.int p0), .val (.int p0)] [(.int (97 : Int32)), (.int p0)])) (fun t kt => ?_) ?_
    · show Steps p.tables e below (s₁.setTop (mkF m 5 #[.val (.int p0), .val (.int p0)] [(.int (48 : Int32)), (.int p0)])) t
      refine XS.icmpYes X0.here hx rfl (pc0 := 5) (pc' := 19) rfl (hb hby d4_5) rfl (tlt hc5_1).1 (by decide) (by decide) ?_
      show Steps p.tables e below (s₁.setTop (mkF m 19 #[.val (.int p0), .val (.int p0)] [])) t
      refine XS.iloadN X0.here hx rfl (hb hby d4_19) rfl ?_
      show Steps p.tables e below (s₁.setTop (mkF m 20 #[.val (.int p0), .val (.int p0)] [(.int p0)])) t
      refine XS.bipush X0.here hx rfl (hb hby d4_20) ?_
      show Steps p.tables e below (s₁.setTop (mkF m 22 #[.val (.int p0), .val (.int p0)] [(.int (97 : Int32)), (.int p0)])) t
      exact kt
    by_cases hc22_2 : p0 < (97 : Int32)
    · refine own_go (T' := s₁) (f' := (mkF m 42 #[.val (.int p0), .val (.int p0)] [(.int (65 : Int32)), (.int p0)])) (fun t kt => ?_) ?_
      · show Steps p.tables e below (s₁.setTop (mkF m 22 #[.val (.int p0), .val (.int p0)] [(.int (97 : Int32)), (.int p0)])) t
        refine XS.icmpYes X0.here hx rfl (pc0 := 22) (pc' := 39) rfl (hb hby d4_22) rfl (tlt hc22_2).1 (by decide) (by decide) ?_
        show Steps p.tables e below (s₁.setTop (mkF m 39 #[.val (.int p0), .val (.int p0)] [])) t
        refine XS.iloadN X0.here hx rfl (hb hby d4_39) rfl ?_
        show Steps p.tables e below (s₁.setTop (mkF m 40 #[.val (.int p0), .val (.int p0)] [(.int p0)])) t
        refine XS.bipush X0.here hx rfl (hb hby d4_40) ?_
        show Steps p.tables e below (s₁.setTop (mkF m 42 #[.val (.int p0), .val (.int p0)] [(.int (65 : Int32)), (.int p0)])) t
        exact kt
      by_cases hc42_3 : p0 < (65 : Int32)
      · refine own_go (T' := s₁) (f' := (mkF m 60 #[.val (.int p0), .val (.int p0)] [(.int (-1 : Int32))])) (fun t kt => ?_) ?_
        · show Steps p.tables e below (s₁.setTop (mkF m 42 #[.val (.int p0), .val (.int p0)] [(.int (65 : Int32)), (.int p0)])) t
          refine XS.icmpYes X0.here hx rfl (pc0 := 42) (pc' := 59) rfl (hb hby d4_42) rfl (tlt hc42_3).1 (by decide) (by decide) ?_
          show Steps p.tables e below (s₁.setTop (mkF m 59 #[.val (.int p0), .val (.int p0)] [])) t
          refine XS.iconst X0.here hx rfl (hb hby d4_59) ?_
          show Steps p.tables e below (s₁.setTop (mkF m 60 #[.val (.int p0), .val (.int p0)] [(.int (-1 : Int32))])) t
          exact kt
        exact own_retI X0 hP hx hlk e0 hret (hb hby d4_60) (by decide) (by decide) ⟨(by unfold own_hx; simp only [Int32.lt_iff_toInt_lt, own_l48, own_l57, own_l65, own_l70, own_l97, own_l102] at hc5_1 hc22_2 hc42_3 ⊢; repeat' split; all_goals first | rfl | omega), rfl, rfl⟩
      · refine own_go (T' := s₁) (f' := (mkF m 48 #[.val (.int p0), .val (.int p0)] [(.int (70 : Int32)), (.int p0)])) (fun t kt => ?_) ?_
        · show Steps p.tables e below (s₁.setTop (mkF m 42 #[.val (.int p0), .val (.int p0)] [(.int (65 : Int32)), (.int p0)])) t
          refine XS.icmpNo X0.here hx rfl (hb hby d4_42) rfl (flt hc42_3).1 ?_
          show Steps p.tables e below (s₁.setTop (mkF m 45 #[.val (.int p0), .val (.int p0)] [])) t
          refine XS.iloadN X0.here hx rfl (hb hby d4_45) rfl ?_
          show Steps p.tables e below (s₁.setTop (mkF m 46 #[.val (.int p0), .val (.int p0)] [(.int p0)])) t
          refine XS.bipush X0.here hx rfl (hb hby d4_46) ?_
          show Steps p.tables e below (s₁.setTop (mkF m 48 #[.val (.int p0), .val (.int p0)] [(.int (70 : Int32)), (.int p0)])) t
          exact kt
        by_cases hc48_4 : (70 : Int32) < p0
        · refine own_go (T' := s₁) (f' := (mkF m 60 #[.val (.int p0), .val (.int p0)] [(.int (-1 : Int32))])) (fun t kt => ?_) ?_
          · show Steps p.tables e below (s₁.setTop (mkF m 48 #[.val (.int p0), .val (.int p0)] [(.int (70 : Int32)), (.int p0)])) t
            refine XS.icmpYes X0.here hx rfl (pc0 := 48) (pc' := 59) rfl (hb hby d4_48) rfl (tlt hc48_4).2.2.1 (by decide) (by decide) ?_
            show Steps p.tables e below (s₁.setTop (mkF m 59 #[.val (.int p0), .val (.int p0)] [])) t
            refine XS.iconst X0.here hx rfl (hb hby d4_59) ?_
            show Steps p.tables e below (s₁.setTop (mkF m 60 #[.val (.int p0), .val (.int p0)] [(.int (-1 : Int32))])) t
            exact kt
          exact own_retI X0 hP hx hlk e0 hret (hb hby d4_60) (by decide) (by decide) ⟨(by unfold own_hx; simp only [Int32.lt_iff_toInt_lt, own_l48, own_l57, own_l65, own_l70, own_l97, own_l102] at hc5_1 hc22_2 hc42_3 hc48_4 ⊢; repeat' split; all_goals first | rfl | omega), rfl, rfl⟩
        · refine own_go (T' := s₁) (f' := (mkF m 58 #[.val (.int p0), .val (.int p0)] [(.int ((p0 - (65 : Int32)) + (10 : Int32)))])) (fun t kt => ?_) ?_
          · show Steps p.tables e below (s₁.setTop (mkF m 48 #[.val (.int p0), .val (.int p0)] [(.int (70 : Int32)), (.int p0)])) t
            refine XS.icmpNo X0.here hx rfl (hb hby d4_48) rfl (flt hc48_4).2.2.1 ?_
            show Steps p.tables e below (s₁.setTop (mkF m 51 #[.val (.int p0), .val (.int p0)] [])) t
            refine XS.iloadN X0.here hx rfl (hb hby d4_51) rfl ?_
            show Steps p.tables e below (s₁.setTop (mkF m 52 #[.val (.int p0), .val (.int p0)] [(.int p0)])) t
            refine XS.bipush X0.here hx rfl (hb hby d4_52) ?_
            show Steps p.tables e below (s₁.setTop (mkF m 54 #[.val (.int p0), .val (.int p0)] [(.int (65 : Int32)), (.int p0)])) t
            refine XS.isub X0.here hx rfl (hb hby d4_54) rfl ?_
            show Steps p.tables e below (s₁.setTop (mkF m 55 #[.val (.int p0), .val (.int p0)] [(.int (p0 - (65 : Int32)))])) t
            refine XS.bipush X0.here hx rfl (hb hby d4_55) ?_
            show Steps p.tables e below (s₁.setTop (mkF m 57 #[.val (.int p0), .val (.int p0)] [(.int (10 : Int32)), (.int (p0 - (65 : Int32)))])) t
            refine XS.iadd X0.here hx rfl (hb hby d4_57) rfl ?_
            show Steps p.tables e below (s₁.setTop (mkF m 58 #[.val (.int p0), .val (.int p0)] [(.int ((p0 - (65 : Int32)) + (10 : Int32)))])) t
            exact kt
          exact own_retI X0 hP hx hlk e0 hret (hb hby d4_58) (by decide) (by decide) ⟨(by unfold own_hx; simp only [Int32.lt_iff_toInt_lt, own_l48, own_l57, own_l65, own_l70, own_l97, own_l102] at hc5_1 hc22_2 hc42_3 hc48_4 ⊢; repeat' split; all_goals first | rfl | omega), rfl, rfl⟩
    · refine own_go (T' := s₁) (f' := (mkF m 28 #[.val (.int p0), .val (.int p0)] [(.int (102 : Int32)), (.int p0)])) (fun t kt => ?_) ?_
      · show Steps p.tables e below (s₁.setTop (mkF m 22 #[.val (.int p0), .val (.int p0)] [(.int (97 : Int32)), (.int p0)])) t
        refine XS.icmpNo X0.here hx rfl (hb hby d4_22) rfl (flt hc22_2).1 ?_
        show Steps p.tables e below (s₁.setTop (mkF m 25 #[.val (.int p0), .val (.int p0)] [])) t
        refine XS.iloadN X0.here hx rfl (hb hby d4_25) rfl ?_
        show Steps p.tables e below (s₁.setTop (mkF m 26 #[.val (.int p0), .val (.int p0)] [(.int p0)])) t
        refine XS.bipush X0.here hx rfl (hb hby d4_26) ?_
        show Steps p.tables e below (s₁.setTop (mkF m 28 #[.val (.int p0), .val (.int p0)] [(.int (102 : Int32)), (.int p0)])) t
        exact kt
      by_cases hc28_5 : (102 : Int32) < p0
      · refine own_go (T' := s₁) (f' := (mkF m 42 #[.val (.int p0), .val (.int p0)] [(.int (65 : Int32)), (.int p0)])) (fun t kt => ?_) ?_
        · show Steps p.tables e below (s₁.setTop (mkF m 28 #[.val (.int p0), .val (.int p0)] [(.int (102 : Int32)), (.int p0)])) t
          refine XS.icmpYes X0.here hx rfl (pc0 := 28) (pc' := 39) rfl (hb hby d4_28) rfl (tlt hc28_5).2.2.1 (by decide) (by decide) ?_
          show Steps p.tables e below (s₁.setTop (mkF m 39 #[.val (.int p0), .val (.int p0)] [])) t
          refine XS.iloadN X0.here hx rfl (hb hby d4_39) rfl ?_
          show Steps p.tables e below (s₁.setTop (mkF m 40 #[.val (.int p0), .val (.int p0)] [(.int p0)])) t
          refine XS.bipush X0.here hx rfl (hb hby d4_40) ?_
          show Steps p.tables e below (s₁.setTop (mkF m 42 #[.val (.int p0), .val (.int p0)] [(.int (65 : Int32)), (.int p0)])) t
          exact kt
        by_cases hc42_6 : p0 < (65 : Int32)
        · refine own_go (T' := s₁) (f' := (mkF m 60 #[.val (.int p0), .val (.int p0)] [(.int (-1 : Int32))])) (fun t kt => ?_) ?_
          · show Steps p.tables e below (s₁.setTop (mkF m 42 #[.val (.int p0), .val (.int p0)] [(.int (65 : Int32)), (.int p0)])) t
            refine XS.icmpYes X0.here hx rfl (pc0 := 42) (pc' := 59) rfl (hb hby d4_42) rfl (tlt hc42_6).1 (by decide) (by decide) ?_
            show Steps p.tables e below (s₁.setTop (mkF m 59 #[.val (.int p0), .val (.int p0)] [])) t
            refine XS.iconst X0.here hx rfl (hb hby d4_59) ?_
            show Steps p.tables e below (s₁.setTop (mkF m 60 #[.val (.int p0), .val (.int p0)] [(.int (-1 : Int32))])) t
            exact kt
          exact own_retI X0 hP hx hlk e0 hret (hb hby d4_60) (by decide) (by decide) ⟨(by unfold own_hx; simp only [Int32.lt_iff_toInt_lt, own_l48, own_l57, own_l65, own_l70, own_l97, own_l102] at hc5_1 hc22_2 hc28_5 hc42_6 ⊢; repeat' split; all_goals first | rfl | omega), rfl, rfl⟩
        · refine own_go (T' := s₁) (f' := (mkF m 48 #[.val (.int p0), .val (.int p0)] [(.int (70 : Int32)), (.int p0)])) (fun t kt => ?_) ?_
          · show Steps p.tables e below (s₁.setTop (mkF m 42 #[.val (.int p0), .val (.int p0)] [(.int (65 : Int32)), (.int p0)])) t
            refine XS.icmpNo X0.here hx rfl (hb hby d4_42) rfl (flt hc42_6).1 ?_
            show Steps p.tables e below (s₁.setTop (mkF m 45 #[.val (.int p0), .val (.int p0)] [])) t
            refine XS.iloadN X0.here hx rfl (hb hby d4_45) rfl ?_
            show Steps p.tables e below (s₁.setTop (mkF m 46 #[.val (.int p0), .val (.int p0)] [(.int p0)])) t
            refine XS.bipush X0.here hx rfl (hb hby d4_46) ?_
            show Steps p.tables e below (s₁.setTop (mkF m 48 #[.val (.int p0), .val (.int p0)] [(.int (70 : Int32)), (.int p0)])) t
            exact kt
          by_cases hc48_7 : (70 : Int32) < p0
          · refine own_go (T' := s₁) (f' := (mkF m 60 #[.val (.int p0), .val (.int p0)] [(.int (-1 : Int32))])) (fun t kt => ?_) ?_
            · show Steps p.tables e below (s₁.setTop (mkF m 48 #[.val (.int p0), .val (.int p0)] [(.int (70 : Int32)), (.int p0)])) t
              refine XS.icmpYes X0.here hx rfl (pc0 := 48) (pc' := 59) rfl (hb hby d4_48) rfl (tlt hc48_7).2.2.1 (by decide) (by decide) ?_
              show Steps p.tables e below (s₁.setTop (mkF m 59 #[.val (.int p0), .val (.int p0)] [])) t
              refine XS.iconst X0.here hx rfl (hb hby d4_59) ?_
              show Steps p.tables e below (s₁.setTop (mkF m 60 #[.val (.int p0), .val (.int p0)] [(.int (-1 : Int32))])) t
              exact kt
            exact own_retI X0 hP hx hlk e0 hret (hb hby d4_60) (by decide) (by decide) ⟨(by unfold own_hx; simp only [Int32.lt_iff_toInt_lt, own_l48, own_l57, own_l65, own_l70, own_l97, own_l102] at hc5_1 hc22_2 hc28_5 hc42_6 hc48_7 ⊢; repeat' split; all_goals first | rfl | omega), rfl, rfl⟩
          · refine own_go (T' := s₁) (f' := (mkF m 58 #[.val (.int p0), .val (.int p0)] [(.int ((p0 - (65 : Int32)) + (10 : Int32)))])) (fun t kt => ?_) ?_
            · show Steps p.tables e below (s₁.setTop (mkF m 48 #[.val (.int p0), .val (.int p0)] [(.int (70 : Int32)), (.int p0)])) t
              refine XS.icmpNo X0.here hx rfl (hb hby d4_48) rfl (flt hc48_7).2.2.1 ?_
              show Steps p.tables e below (s₁.setTop (mkF m 51 #[.val (.int p0), .val (.int p0)] [])) t
              refine XS.iloadN X0.here hx rfl (hb hby d4_51) rfl ?_
              show Steps p.tables e below (s₁.setTop (mkF m 52 #[.val (.int p0), .val (.int p0)] [(.int p0)])) t
              refine XS.bipush X0.here hx rfl (hb hby d4_52) ?_
              show Steps p.tables e below (s₁.setTop (mkF m 54 #[.val (.int p0), .val (.int p0)] [(.int (65 : Int32)), (.int p0)])) t
              refine XS.isub X0.here hx rfl (hb hby d4_54) rfl ?_
              show Steps p.tables e below (s₁.setTop (mkF m 55 #[.val (.int p0), .val (.int p0)] [(.int (p0 - (65 : Int32)))])) t
              refine XS.bipush X0.here hx rfl (hb hby d4_55) ?_
              show Steps p.tables e below (s₁.setTop (mkF m 57 #[.val (.int p0), .val (.int p0)] [(.int (10 : Int32)), (.int (p0 - (65 : Int32)))])) t
              refine XS.iadd X0.here hx rfl (hb hby d4_57) rfl ?_
              show Steps p.tables e below (s₁.setTop (mkF m 58 #[.val (.int p0), .val (.int p0)] [(.int ((p0 - (65 : Int32)) + (10 : Int32)))])) t
              exact kt
            exact own_retI X0 hP hx hlk e0 hret (hb hby d4_58) (by decide) (by decide) ⟨(by unfold own_hx; simp only [Int32.lt_iff_toInt_lt, own_l48, own_l57, own_l65, own_l70, own_l97, own_l102] at hc5_1 hc22_2 hc28_5 hc42_6 hc48_7 ⊢; repeat' split; all_goals first | rfl | omega), rfl, rfl⟩
      · refine own_go (T' := s₁) (f' := (mkF m 38 #[.val (.int p0), .val (.int p0)] [(.int ((p0 - (97 : Int32)) + (10 : Int32)))])) (fun t kt => ?_) ?_
        · show Steps p.tables e below (s₁.setTop (mkF m 28 #[.val (.int p0), .val (.int p0)] [(.int (102 : Int32)), (.int p0)])) t
          refine XS.icmpNo X0.here hx rfl (hb hby d4_28) rfl (flt hc28_5).2.2.1 ?_
          show Steps p.tables e below (s₁.setTop (mkF m 31 #[.val (.int p0), .val (.int p0)] [])) t
          refine XS.iloadN X0.here hx rfl (hb hby d4_31) rfl ?_
          show Steps p.tables e below (s₁.setTop (mkF m 32 #[.val (.int p0), .val (.int p0)] [(.int p0)])) t
          refine XS.bipush X0.here hx rfl (hb hby d4_32) ?_
          show Steps p.tables e below (s₁.setTop (mkF m 34 #[.val (.int p0), .val (.int p0)] [(.int (97 : Int32)), (.int p0)])) t
          refine XS.isub X0.here hx rfl (hb hby d4_34) rfl ?_
          show Steps p.tables e below (s₁.setTop (mkF m 35 #[.val (.int p0), .val (.int p0)] [(.int (p0 - (97 : Int32)))])) t
          refine XS.bipush X0.here hx rfl (hb hby d4_35) ?_
          show Steps p.tables e below (s₁.setTop (mkF m 37 #[.val (.int p0), .val (.int p0)] [(.int (10 : Int32)), (.int (p0 - (97 : Int32)))])) t
          refine XS.iadd X0.here hx rfl (hb hby d4_37) rfl ?_
          show Steps p.tables e below (s₁.setTop (mkF m 38 #[.val (.int p0), .val (.int p0)] [(.int ((p0 - (97 : Int32)) + (10 : Int32)))])) t
          exact kt
        exact own_retI X0 hP hx hlk e0 hret (hb hby d4_38) (by decide) (by decide) ⟨(by unfold own_hx; simp only [Int32.lt_iff_toInt_lt, own_l48, own_l57, own_l65, own_l70, own_l97, own_l102] at hc5_1 hc22_2 hc28_5 ⊢; repeat' split; all_goals first | rfl | omega), rfl, rfl⟩
  · refine own_go (T' := s₁) (f' := (mkF m 11 #[.val (.int p0), .val (.int p0)] [(.int (57 : Int32)), (.int p0)])) (fun t kt => ?_) ?_
    · show Steps p.tables e below (s₁.setTop (mkF m 5 #[.val (.int p0), .val (.int p0)] [(.int (48 : Int32)), (.int p0)])) t
      refine XS.icmpNo X0.here hx rfl (hb hby d4_5) rfl (flt hc5_1).1 ?_
      show Steps p.tables e below (s₁.setTop (mkF m 8 #[.val (.int p0), .val (.int p0)] [])) t
      refine XS.iloadN X0.here hx rfl (hb hby d4_8) rfl ?_
      show Steps p.tables e below (s₁.setTop (mkF m 9 #[.val (.int p0), .val (.int p0)] [(.int p0)])) t
      refine XS.bipush X0.here hx rfl (hb hby d4_9) ?_
      show Steps p.tables e below (s₁.setTop (mkF m 11 #[.val (.int p0), .val (.int p0)] [(.int (57 : Int32)), (.int p0)])) t
      exact kt
    by_cases hc11_8 : (57 : Int32) < p0
    · refine own_go (T' := s₁) (f' := (mkF m 22 #[.val (.int p0), .val (.int p0)] [(.int (97 : Int32)), (.int p0)])) (fun t kt => ?_) ?_
      · show Steps p.tables e below (s₁.setTop (mkF m 11 #[.val (.int p0), .val (.int p0)] [(.int (57 : Int32)), (.int p0)])) t
        refine XS.icmpYes X0.here hx rfl (pc0 := 11) (pc' := 19) rfl (hb hby d4_11) rfl (tlt hc11_8).2.2.1 (by decide) (by decide) ?_
        show Steps p.tables e below (s₁.setTop (mkF m 19 #[.val (.int p0), .val (.int p0)] [])) t
        refine XS.iloadN X0.here hx rfl (hb hby d4_19) rfl ?_
        show Steps p.tables e below (s₁.setTop (mkF m 20 #[.val (.int p0), .val (.int p0)] [(.int p0)])) t
        refine XS.bipush X0.here hx rfl (hb hby d4_20) ?_
        show Steps p.tables e below (s₁.setTop (mkF m 22 #[.val (.int p0), .val (.int p0)] [(.int (97 : Int32)), (.int p0)])) t
        exact kt
      by_cases hc22_9 : p0 < (97 : Int32)
      · refine own_go (T' := s₁) (f' := (mkF m 42 #[.val (.int p0), .val (.int p0)] [(.int (65 : Int32)), (.int p0)])) (fun t kt => ?_) ?_
        · show Steps p.tables e below (s₁.setTop (mkF m 22 #[.val (.int p0), .val (.int p0)] [(.int (97 : Int32)), (.int p0)])) t
          refine XS.icmpYes X0.here hx rfl (pc0 := 22) (pc' := 39) rfl (hb hby d4_22) rfl (tlt hc22_9).1 (by decide) (by decide) ?_
          show Steps p.tables e below (s₁.setTop (mkF m 39 #[.val (.int p0), .val (.int p0)] [])) t
          refine XS.iloadN X0.here hx rfl (hb hby d4_39) rfl ?_
          show Steps p.tables e below (s₁.setTop (mkF m 40 #[.val (.int p0), .val (.int p0)] [(.int p0)])) t
          refine XS.bipush X0.here hx rfl (hb hby d4_40) ?_
          show Steps p.tables e below (s₁.setTop (mkF m 42 #[.val (.int p0), .val (.int p0)] [(.int (65 : Int32)), (.int p0)])) t
          exact kt
        by_cases hc42_10 : p0 < (65 : Int32)
        · refine own_go (T' := s₁) (f' := (mkF m 60 #[.val (.int p0), .val (.int p0)] [(.int (-1 : Int32))])) (fun t kt => ?_) ?_
          · show Steps p.tables e below (s₁.setTop (mkF m 42 #[.val (.int p0), .val (.int p0)] [(.int (65 : Int32)), (.int p0)])) t
            refine XS.icmpYes X0.here hx rfl (pc0 := 42) (pc' := 59) rfl (hb hby d4_42) rfl (tlt hc42_10).1 (by decide) (by decide) ?_
            show Steps p.tables e below (s₁.setTop (mkF m 59 #[.val (.int p0), .val (.int p0)] [])) t
            refine XS.iconst X0.here hx rfl (hb hby d4_59) ?_
            show Steps p.tables e below (s₁.setTop (mkF m 60 #[.val (.int p0), .val (.int p0)] [(.int (-1 : Int32))])) t
            exact kt
          exact own_retI X0 hP hx hlk e0 hret (hb hby d4_60) (by decide) (by decide) ⟨(by unfold own_hx; simp only [Int32.lt_iff_toInt_lt, own_l48, own_l57, own_l65, own_l70, own_l97, own_l102] at hc5_1 hc11_8 hc22_9 hc42_10 ⊢; repeat' split; all_goals first | rfl | omega), rfl, rfl⟩
        · refine own_go (T' := s₁) (f' := (mkF m 48 #[.val (.int p0), .val (.int p0)] [(.int (70 : Int32)), (.int p0)])) (fun t kt => ?_) ?_
          · show Steps p.tables e below (s₁.setTop (mkF m 42 #[.val (.int p0), .val (.int p0)] [(.int (65 : Int32)), (.int p0)])) t
            refine XS.icmpNo X0.here hx rfl (hb hby d4_42) rfl (flt hc42_10).1 ?_
            show Steps p.tables e below (s₁.setTop (mkF m 45 #[.val (.int p0), .val (.int p0)] [])) t
            refine XS.iloadN X0.here hx rfl (hb hby d4_45) rfl ?_
            show Steps p.tables e below (s₁.setTop (mkF m 46 #[.val (.int p0), .val (.int p0)] [(.int p0)])) t
            refine XS.bipush X0.here hx rfl (hb hby d4_46) ?_
            show Steps p.tables e below (s₁.setTop (mkF m 48 #[.val (.int p0), .val (.int p0)] [(.int (70 : Int32)), (.int p0)])) t
            exact kt
          by_cases hc48_11 : (70 : Int32) < p0
          · refine own_go (T' := s₁) (f' := (mkF m 60 #[.val (.int p0), .val (.int p0)] [(.int (-1 : Int32))])) (fun t kt => ?_) ?_
            · show Steps p.tables e below (s₁.setTop (mkF m 48 #[.val (.int p0), .val (.int p0)] [(.int (70 : Int32)), (.int p0)])) t
              refine XS.icmpYes X0.here hx rfl (pc0 := 48) (pc' := 59) rfl (hb hby d4_48) rfl (tlt hc48_11).2.2.1 (by decide) (by decide) ?_
              show Steps p.tables e below (s₁.setTop (mkF m 59 #[.val (.int p0), .val (.int p0)] [])) t
              refine XS.iconst X0.here hx rfl (hb hby d4_59) ?_
              show Steps p.tables e below (s₁.setTop (mkF m 60 #[.val (.int p0), .val (.int p0)] [(.int (-1 : Int32))])) t
              exact kt
            exact own_retI X0 hP hx hlk e0 hret (hb hby d4_60) (by decide) (by decide) ⟨(by unfold own_hx; simp only [Int32.lt_iff_toInt_lt, own_l48, own_l57, own_l65, own_l70, own_l97, own_l102] at hc5_1 hc11_8 hc22_9 hc42_10 hc48_11 ⊢; repeat' split; all_goals first | rfl | omega), rfl, rfl⟩
          · refine own_go (T' := s₁) (f' := (mkF m 58 #[.val (.int p0), .val (.int p0)] [(.int ((p0 - (65 : Int32)) + (10 : Int32)))])) (fun t kt => ?_) ?_
            · show Steps p.tables e below (s₁.setTop (mkF m 48 #[.val (.int p0), .val (.int p0)] [(.int (70 : Int32)), (.int p0)])) t
              refine XS.icmpNo X0.here hx rfl (hb hby d4_48) rfl (flt hc48_11).2.2.1 ?_
              show Steps p.tables e below (s₁.setTop (mkF m 51 #[.val (.int p0), .val (.int p0)] [])) t
              refine XS.iloadN X0.here hx rfl (hb hby d4_51) rfl ?_
              show Steps p.tables e below (s₁.setTop (mkF m 52 #[.val (.int p0), .val (.int p0)] [(.int p0)])) t
              refine XS.bipush X0.here hx rfl (hb hby d4_52) ?_
              show Steps p.tables e below (s₁.setTop (mkF m 54 #[.val (.int p0), .val (.int p0)] [(.int (65 : Int32)), (.int p0)])) t
              refine XS.isub X0.here hx rfl (hb hby d4_54) rfl ?_
              show Steps p.tables e below (s₁.setTop (mkF m 55 #[.val (.int p0), .val (.int p0)] [(.int (p0 - (65 : Int32)))])) t
              refine XS.bipush X0.here hx rfl (hb hby d4_55) ?_
              show Steps p.tables e below (s₁.setTop (mkF m 57 #[.val (.int p0), .val (.int p0)] [(.int (10 : Int32)), (.int (p0 - (65 : Int32)))])) t
              refine XS.iadd X0.here hx rfl (hb hby d4_57) rfl ?_
              show Steps p.tables e below (s₁.setTop (mkF m 58 #[.val (.int p0), .val (.int p0)] [(.int ((p0 - (65 : Int32)) + (10 : Int32)))])) t
              exact kt
            exact own_retI X0 hP hx hlk e0 hret (hb hby d4_58) (by decide) (by decide) ⟨(by unfold own_hx; simp only [Int32.lt_iff_toInt_lt, own_l48, own_l57, own_l65, own_l70, own_l97, own_l102] at hc5_1 hc11_8 hc22_9 hc42_10 hc48_11 ⊢; repeat' split; all_goals first | rfl | omega), rfl, rfl⟩
      · refine own_go (T' := s₁) (f' := (mkF m 28 #[.val (.int p0), .val (.int p0)] [(.int (102 : Int32)), (.int p0)])) (fun t kt => ?_) ?_
        · show Steps p.tables e below (s₁.setTop (mkF m 22 #[.val (.int p0), .val (.int p0)] [(.int (97 : Int32)), (.int p0)])) t
          refine XS.icmpNo X0.here hx rfl (hb hby d4_22) rfl (flt hc22_9).1 ?_
          show Steps p.tables e below (s₁.setTop (mkF m 25 #[.val (.int p0), .val (.int p0)] [])) t
          refine XS.iloadN X0.here hx rfl (hb hby d4_25) rfl ?_
          show Steps p.tables e below (s₁.setTop (mkF m 26 #[.val (.int p0), .val (.int p0)] [(.int p0)])) t
          refine XS.bipush X0.here hx rfl (hb hby d4_26) ?_
          show Steps p.tables e below (s₁.setTop (mkF m 28 #[.val (.int p0), .val (.int p0)] [(.int (102 : Int32)), (.int p0)])) t
          exact kt
        by_cases hc28_12 : (102 : Int32) < p0
        · refine own_go (T' := s₁) (f' := (mkF m 42 #[.val (.int p0), .val (.int p0)] [(.int (65 : Int32)), (.int p0)])) (fun t kt => ?_) ?_
          · show Steps p.tables e below (s₁.setTop (mkF m 28 #[.val (.int p0), .val (.int p0)] [(.int (102 : Int32)), (.int p0)])) t
            refine XS.icmpYes X0.here hx rfl (pc0 := 28) (pc' := 39) rfl (hb hby d4_28) rfl (tlt hc28_12).2.2.1 (by decide) (by decide) ?_
            show Steps p.tables e below (s₁.setTop (mkF m 39 #[.val (.int p0), .val (.int p0)] [])) t
            refine XS.iloadN X0.here hx rfl (hb hby d4_39) rfl ?_
            show Steps p.tables e below (s₁.setTop (mkF m 40 #[.val (.int p0), .val (.int p0)] [(.int p0)])) t
            refine XS.bipush X0.here hx rfl (hb hby d4_40) ?_
            show Steps p.tables e below (s₁.setTop (mkF m 42 #[.val (.int p0), .val (.int p0)] [(.int (65 : Int32)), (.int p0)])) t
            exact kt
          by_cases hc42_13 : p0 < (65 : Int32)
          · refine own_go (T' := s₁) (f' := (mkF m 60 #[.val (.int p0), .val (.int p0)] [(.int (-1 : Int32))])) (fun t kt => ?_) ?_
            · show Steps p.tables e below (s₁.setTop (mkF m 42 #[.val (.int p0), .val (.int p0)] [(.int (65 : Int32)), (.int p0)])) t
              refine XS.icmpYes X0.here hx rfl (pc0 := 42) (pc' := 59) rfl (hb hby d4_42) rfl (tlt hc42_13).1 (by decide) (by decide) ?_
              show Steps p.tables e below (s₁.setTop (mkF m 59 #[.val (.int p0), .val (.int p0)] [])) t
              refine XS.iconst X0.here hx rfl (hb hby d4_59) ?_
              show Steps p.tables e below (s₁.setTop (mkF m 60 #[.val (.int p0), .val (.int p0)] [(.int (-1 : Int32))])) t
              exact kt
            exact own_retI X0 hP hx hlk e0 hret (hb hby d4_60) (by decide) (by decide) ⟨(by unfold own_hx; simp only [Int32.lt_iff_toInt_lt, own_l48, own_l57, own_l65, own_l70, own_l97, own_l102] at hc5_1 hc11_8 hc22_9 hc28_12 hc42_13 ⊢; repeat' split; all_goals first | rfl | omega), rfl, rfl⟩
          · refine own_go (T' := s₁) (f' := (mkF m 48 #[.val (.int p0), .val (.int p0)] [(.int (70 : Int32)), (.int p0)])) (fun t kt => ?_) ?_
            · show Steps p.tables e below (s₁.setTop (mkF m 42 #[.val (.int p0), .val (.int p0)] [(.int (65 : Int32)), (.int p0)])) t
              refine XS.icmpNo X0.here hx rfl (hb hby d4_42) rfl (flt hc42_13).1 ?_
              show Steps p.tables e below (s₁.setTop (mkF m 45 #[.val (.int p0), .val (.int p0)] [])) t
              refine XS.iloadN X0.here hx rfl (hb hby d4_45) rfl ?_
              show Steps p.tables e below (s₁.setTop (mkF m 46 #[.val (.int p0), .val (.int p0)] [(.int p0)])) t
              refine XS.bipush X0.here hx rfl (hb hby d4_46) ?_
              show Steps p.tables e below (s₁.setTop (mkF m 48 #[.val (.int p0), .val (.int p0)] [(.int (70 : Int32)), (.int p0)])) t
              exact kt
            by_cases hc48_14 : (70 : Int32) < p0
            · refine own_go (T' := s₁) (f' := (mkF m 60 #[.val (.int p0), .val (.int p0)] [(.int (-1 : Int32))])) (fun t kt => ?_) ?_
              · show Steps p.tables e below (s₁.setTop (mkF m 48 #[.val (.int p0), .val (.int p0)] [(.int (70 : Int32)), (.int p0)])) t
                refine XS.icmpYes X0.here hx rfl (pc0 := 48) (pc' := 59) rfl (hb hby d4_48) rfl (tlt hc48_14).2.2.1 (by decide) (by decide) ?_
                show Steps p.tables e below (s₁.setTop (mkF m 59 #[.val (.int p0), .val (.int p0)] [])) t
                refine XS.iconst X0.here hx rfl (hb hby d4_59) ?_
                show Steps p.tables e below (s₁.setTop (mkF m 60 #[.val (.int p0), .val (.int p0)] [(.int (-1 : Int32))])) t
                exact kt
              exact own_retI X0 hP hx hlk e0 hret (hb hby d4_60) (by decide) (by decide) ⟨(by unfold own_hx; simp only [Int32.lt_iff_toInt_lt, own_l48, own_l57, own_l65, own_l70, own_l97, own_l102] at hc5_1 hc11_8 hc22_9 hc28_12 hc42_13 hc48_14 ⊢; repeat' split; all_goals first | rfl | omega), rfl, rfl⟩
            · refine own_go (T' := s₁) (f' := (mkF m 58 #[.val (.int p0), .val (.int p0)] [(.int ((p0 - (65 : Int32)) + (10 : Int32)))])) (fun t kt => ?_) ?_
              · show Steps p.tables e below (s₁.setTop (mkF m 48 #[.val (.int p0), .val (.int p0)] [(.int (70 : Int32)), (.int p0)])) t
                refine XS.icmpNo X0.here hx rfl (hb hby d4_48) rfl (flt hc48_14).2.2.1 ?_
                show Steps p.tables e below (s₁.setTop (mkF m 51 #[.val (.int p0), .val (.int p0)] [])) t
                refine XS.iloadN X0.here hx rfl (hb hby d4_51) rfl ?_
                show Steps p.tables e below (s₁.setTop (mkF m 52 #[.val (.int p0), .val (.int p0)] [(.int p0)])) t
                refine XS.bipush X0.here hx rfl (hb hby d4_52) ?_
                show Steps p.tables e below (s₁.setTop (mkF m 54 #[.val (.int p0), .val (.int p0)] [(.int (65 : Int32)), (.int p0)])) t
                refine XS.isub X0.here hx rfl (hb hby d4_54) rfl ?_
                show Steps p.tables e below (s₁.setTop (mkF m 55 #[.val (.int p0), .val (.int p0)] [(.int (p0 - (65 : Int32)))])) t
                refine XS.bipush X0.here hx rfl (hb hby d4_55) ?_
                show Steps p.tables e below (s₁.setTop (mkF m 57 #[.val (.int p0), .val (.int p0)] [(.int (10 : Int32)), (.int (p0 - (65 : Int32)))])) t
                refine XS.iadd X0.here hx rfl (hb hby d4_57) rfl ?_
                show Steps p.tables e below (s₁.setTop (mkF m 58 #[.val (.int p0), .val (.int p0)] [(.int ((p0 - (65 : Int32)) + (10 : Int32)))])) t
                exact kt
              exact own_retI X0 hP hx hlk e0 hret (hb hby d4_58) (by decide) (by decide) ⟨(by unfold own_hx; simp only [Int32.lt_iff_toInt_lt, own_l48, own_l57, own_l65, own_l70, own_l97, own_l102] at hc5_1 hc11_8 hc22_9 hc28_12 hc42_13 hc48_14 ⊢; repeat' split; all_goals first | rfl | omega), rfl, rfl⟩
        · refine own_go (T' := s₁) (f' := (mkF m 38 #[.val (.int p0), .val (.int p0)] [(.int ((p0 - (97 : Int32)) + (10 : Int32)))])) (fun t kt => ?_) ?_
          · show Steps p.tables e below (s₁.setTop (mkF m 28 #[.val (.int p0), .val (.int p0)] [(.int (102 : Int32)), (.int p0)])) t
            refine XS.icmpNo X0.here hx rfl (hb hby d4_28) rfl (flt hc28_12).2.2.1 ?_
            show Steps p.tables e below (s₁.setTop (mkF m 31 #[.val (.int p0), .val (.int p0)] [])) t
            refine XS.iloadN X0.here hx rfl (hb hby d4_31) rfl ?_
            show Steps p.tables e below (s₁.setTop (mkF m 32 #[.val (.int p0), .val (.int p0)] [(.int p0)])) t
            refine XS.bipush X0.here hx rfl (hb hby d4_32) ?_
            show Steps p.tables e below (s₁.setTop (mkF m 34 #[.val (.int p0), .val (.int p0)] [(.int (97 : Int32)), (.int p0)])) t
            refine XS.isub X0.here hx rfl (hb hby d4_34) rfl ?_
            show Steps p.tables e below (s₁.setTop (mkF m 35 #[.val (.int p0), .val (.int p0)] [(.int (p0 - (97 : Int32)))])) t
            refine XS.bipush X0.here hx rfl (hb hby d4_35) ?_
            show Steps p.tables e below (s₁.setTop (mkF m 37 #[.val (.int p0), .val (.int p0)] [(.int (10 : Int32)), (.int (p0 - (97 : Int32)))])) t
            refine XS.iadd X0.here hx rfl (hb hby d4_37) rfl ?_
            show Steps p.tables e below (s₁.setTop (mkF m 38 #[.val (.int p0), .val (.int p0)] [(.int ((p0 - (97 : Int32)) + (10 : Int32)))])) t
            exact kt
          exact own_retI X0 hP hx hlk e0 hret (hb hby d4_38) (by decide) (by decide) ⟨(by unfold own_hx; simp only [Int32.lt_iff_toInt_lt, own_l48, own_l57, own_l65, own_l70, own_l97, own_l102] at hc5_1 hc11_8 hc22_9 hc28_12 ⊢; repeat' split; all_goals first | rfl | omega), rfl, rfl⟩
    · refine own_go (T' := s₁) (f' := (mkF m 18 #[.val (.int p0), .val (.int p0)] [(.int (p0 - (48 : Int32)))])) (fun t kt => ?_) ?_
      · show Steps p.tables e below (s₁.setTop (mkF m 11 #[.val (.int p0), .val (.int p0)] [(.int (57 : Int32)), (.int p0)])) t
        refine XS.icmpNo X0.here hx rfl (hb hby d4_11) rfl (flt hc11_8).2.2.1 ?_
        show Steps p.tables e below (s₁.setTop (mkF m 14 #[.val (.int p0), .val (.int p0)] [])) t
        refine XS.iloadN X0.here hx rfl (hb hby d4_14) rfl ?_
        show Steps p.tables e below (s₁.setTop (mkF m 15 #[.val (.int p0), .val (.int p0)] [(.int p0)])) t
        refine XS.bipush X0.here hx rfl (hb hby d4_15) ?_
        show Steps p.tables e below (s₁.setTop (mkF m 17 #[.val (.int p0), .val (.int p0)] [(.int (48 : Int32)), (.int p0)])) t
        refine XS.isub X0.here hx rfl (hb hby d4_17) rfl ?_
        show Steps p.tables e below (s₁.setTop (mkF m 18 #[.val (.int p0), .val (.int p0)] [(.int (p0 - (48 : Int32)))])) t
        exact kt
      exact own_retI X0 hP hx hlk e0 hret (hb hby d4_18) (by decide) (by decide) ⟨(by unfold own_hx; simp only [Int32.lt_iff_toInt_lt, own_l48, own_l57, own_l65, own_l70, own_l97, own_l102] at hc5_1 hc11_8 ⊢; repeat' split; all_goals first | rfl | omega), rfl, rfl⟩
theorem pn_4 : plainName "com/example/longhold/longhold/bagit/ChecksumAlgorithm" = true := by first | (simp [plainName, overriddenIn]; done) | decide +kernel
theorem d3_0 : decode prog_13_method_9_code 0 = .ok (.iload_n 0, 1) := by decide +kernel
theorem d3_1 : decode prog_13_method_9_code 1 = .ok (.ifCond .lt 11, 3) := by decide +kernel
theorem d3_4 : decode prog_13_method_9_code 4 = .ok (.getstatic 90, 3) := by decide +kernel
theorem d3_7 : decode prog_13_method_9_code 7 = .ok (.iload_n 0, 1) := by decide +kernel
theorem d3_8 : decode prog_13_method_9_code 8 = .ok (.baload, 1) := by decide +kernel
theorem d3_9 : decode prog_13_method_9_code 9 = .ok (.goto 4, 3) := by decide +kernel
theorem d3_12 : decode prog_13_method_9_code 12 = .ok (.iconst (-1), 1) := by decide +kernel
theorem d3_13 : decode prog_13_method_9_code 13 = .ok (.ireturn, 1) := by decide +kernel
set_option maxRecDepth 65536 in
set_option maxHeartbeats 4000000 in
theorem ef_3 (m : MethodId) (p0 : Int32)  : entryFrame m #[(.int p0)] 1 = mkF m 0 #[.val (.int p0)] [] := by first | (simp [entryFrame, mkF, argsToLocals, Value.category]; done) | rfl
set_option maxRecDepth 65536 in
set_option maxHeartbeats 40000000 in
theorem rm3 (l : Launch) (Z : State) (aw : Array Value) (hw : ∀ d ∈ tables_1, d.before aw Z = true) {ws : List Jvm.Cond} (p0 : Int32) (hxa : Addr) (h0 : Heap) (n0 : Nat) (Z0 : n0 ≤ h0.size) (SX : Sta Z h0 "com/example/longhold/longhold/bagit/ChecksumAlgorithm" "HEX_DIGITS" "[B" (.ref hxa)) (HX : own_AB Z h0 hxa 128 own_hf) (hbt : own_byte p0) :
    own_Met l Z (⟨"com/example/longhold/longhold/bagit/ChecksumAlgorithm", "hexDigit", "(B)I"⟩ : MethodName) prog_13_method_9_code 1 (some .int) ws ({ frames := 0, cells := 0, slots := 0, locals := 0 } : Room) #[(.int p0)] h0 (own_Pq (some (.int (own_hx p0))) h0) := by
  refine own_body (plainFor_of_name pn_4) ?_
  intro p e s m below meth c s₁ hx hZ hby hml hown hnm hret hlk X0 e0
  replace hown : s.vm.findClass "com/example/longhold/longhold/bagit/ChecksumAlgorithm" = some m.cls := hown
  replace hml : c.maxLocals = 1 := hml
  obtain ⟨P, hP⟩ : ∃ P, P = own_P below s (own_Pq (some (.int (own_hx p0))) h0) ({ frames := 0, cells := 0, slots := 0, locals := 0 } : Room).cells ({ frames := 0, cells := 0, slots := 0, locals := 0 } : Room).slots := ⟨_, rfl⟩
  rw [← hP]
  refine own_cast (ef_3 m p0) ?_
  refine own_go (T' := s₁) (f' := (mkF m 1 #[.val (.int p0)] [(.int p0)])) (fun t kt => ?_) ?_
  · show Steps p.tables e below (s₁.setTop (mkF m 0 #[.val (.int p0)] [])) t
    refine XS.iloadN X0.here hx rfl (hb hby d3_0) rfl ?_
    show Steps p.tables e below (s₁.setTop (mkF m 1 #[.val (.int p0)] [(.int p0)])) t
    exact kt
  by_cases hc1_1 : p0 < (0 : Int32)
  · refine own_go (T' := s₁) (f' := (mkF m 13 #[.val (.int p0)] [(.int (-1 : Int32))])) (fun t kt => ?_) ?_
    · show Steps p.tables e below (s₁.setTop (mkF m 1 #[.val (.int p0)] [(.int p0)])) t
      refine XS.ifYes X0.here hx rfl (pc0 := 1) (pc' := 12) rfl (hb hby d3_1) rfl ((if0 _ _).trans (tlt hc1_1).1) (by decide) (by decide) ?_
      show Steps p.tables e below (s₁.setTop (mkF m 12 #[.val (.int p0)] [])) t
      refine XS.iconst X0.here hx rfl (hb hby d3_12) ?_
      show Steps p.tables e below (s₁.setTop (mkF m 13 #[.val (.int p0)] [(.int (-1 : Int32))])) t
      exact kt
    exact own_retI X0 hP hx hlk e0 hret (hb hby d3_13) (by decide) (by decide) ⟨(by rw [own_hxneg hc1_1]), rfl, rfl⟩
  · refine own_go (T' := s₁) (f' := (mkF m 4 #[.val (.int p0)] [])) (fun t kt => ?_) ?_
    · show Steps p.tables e below (s₁.setTop (mkF m 1 #[.val (.int p0)] [(.int p0)])) t
      refine XS.ifNo X0.here hx rfl (hb hby d3_1) rfl ((if0 _ _).trans (flt hc1_1).1) ?_
      show Steps p.tables e below (s₁.setTop (mkF m 4 #[.val (.int p0)] [])) t
      exact kt
    obtain ⟨T2, X2, e2, st2⟩ := getS2 X0 hx hZ hown (host := "") (Or.inl (hw _ (List.mem_of_getElem? (i := 18) rfl))) Via.refl e0 SX (g := (mkF m 4 #[.val (.int p0)] [])) rfl (hb hby d3_4)
    refine own_go st2 ?_
    refine own_go (T' := T2) (f' := (mkF m 13 #[.val (.int p0)] [(.int (own_hf p0.toInt.toNat))])) (fun t kt => ?_) ?_
    · show Steps p.tables e below (T2.setTop (mkF m 7 #[.val (.int p0)] [(.ref hxa)])) t
      refine XS.iloadN X2.here hx rfl (hb hby d3_7) rfl ?_
      show Steps p.tables e below (T2.setTop (mkF m 8 #[.val (.int p0)] [(.int p0), (.ref hxa)])) t
      refine own_baload X2 hx hZ e2 HX (i := p0.toInt.toNat) (own_ixb hc1_1) (own_ixb2 hbt) (g := (mkF m 8 #[.val (.int p0)] [(.int p0), (.ref hxa)])) rfl rfl (hb hby d3_8) _ ?_
      show Steps p.tables e below (T2.setTop (mkF m 9 #[.val (.int p0)] [(.int (own_hf p0.toInt.toNat))])) t
      refine XS.goto X2.here hx rfl (pc0 := 9) (pc' := 13) rfl (hb hby d3_9) (by decide) (by decide) ?_
      show Steps p.tables e below (T2.setTop (mkF m 13 #[.val (.int p0)] [(.int (own_hf p0.toInt.toNat))])) t
      exact kt
    exact own_retI X2 hP hx hlk e2 hret (hb hby d3_13) (by decide) (by decide) ⟨(by rw [own_hxf hbt hc1_1]), rfl, rfl⟩
theorem d2_0 : decode prog_13_method_8_code 0 = .ok (.iload_n 3, 1) := by decide +kernel
theorem d2_1 : decode prog_13_method_8_code 1 = .ok (.iload_n 2, 1) := by decide +kernel
theorem d2_2 : decode prog_13_method_8_code 2 = .ok (.isub, 1) := by decide +kernel
theorem d2_3 : decode prog_13_method_8_code 3 = .ok (.iconst 2, 1) := by decide +kernel
theorem d2_4 : decode prog_13_method_8_code 4 = .ok (.aload_n 0, 1) := by decide +kernel
theorem d2_5 : decode prog_13_method_8_code 5 = .ok (.getfield 48, 3) := by decide +kernel
theorem d2_8 : decode prog_13_method_8_code 8 = .ok (.imul, 1) := by decide +kernel
theorem d2_9 : decode prog_13_method_8_code 9 = .ok (.if_icmp .eq 5, 3) := by decide +kernel
theorem d2_12 : decode prog_13_method_8_code 12 = .ok (.aconst_null, 1) := by decide +kernel
theorem d2_13 : decode prog_13_method_8_code 13 = .ok (.areturn, 1) := by decide +kernel
set_option maxRecDepth 65536 in
set_option maxHeartbeats 4000000 in
theorem ef_2n (m : MethodId) (a0 : Addr) (a1 : Addr) (p2 : Int32) (p3 : Int32)  : entryFrame m #[(.ref a0), (.ref a1), (.int p2), (.int p3)] 9 = mkF m 0 #[.val (.ref a0), .val (.ref a1), .val (.int p2), .val (.int p3), .unset, .unset, .unset, .unset, .unset] [] := by first | (simp [entryFrame, mkF, argsToLocals, Value.category]; done) | rfl
set_option maxRecDepth 65536 in
set_option maxHeartbeats 40000000 in
theorem rm2n (l : Launch) (Z : State) (aw : Array Value) (hw : ∀ d ∈ tables_1, d.before aw Z = true) {ws : List Jvm.Cond} (a0 : Addr) (a1 : Addr) (p2 : Int32) (p3 : Int32) (ln : Int32) (h0 : Heap) (n0 : Nat) (Z0 : n0 ≤ h0.size) (F_a0_length : Fld Z h0 a0 "com/example/longhold/longhold/bagit/ChecksumAlgorithm" "length" "I" (.int ln)) (hne : ¬ (p3 - p2) = ((2 : Int32) * ln)) :
    own_Met l Z (⟨"com/example/longhold/longhold/bagit/ChecksumAlgorithm", "parse", "([BII)[B"⟩ : MethodName) prog_13_method_8_code 9 (some (.array .byte)) ws ({ frames := 0, cells := 0, slots := 0, locals := 0 } : Room) #[(.ref a0), (.ref a1), (.int p2), (.int p3)] h0 (own_Pq (some .null) h0) := by
  refine own_body (plainFor_of_name pn_4) ?_
  intro p e s m below meth c s₁ hx hZ hby hml hown hnm hret hlk X0 e0
  replace hown : s.vm.findClass "com/example/longhold/longhold/bagit/ChecksumAlgorithm" = some m.cls := hown
  replace hml : c.maxLocals = 9 := hml
  obtain ⟨P, hP⟩ : ∃ P, P = own_P below s (own_Pq (some .null) h0) ({ frames := 0, cells := 0, slots := 0, locals := 0 } : Room).cells ({ frames := 0, cells := 0, slots := 0, locals := 0 } : Room).slots := ⟨_, rfl⟩
  rw [← hP]
  refine own_cast (ef_2n m a0 a1 p2 p3) ?_
  refine own_go (T' := s₁) (f' := (mkF m 5 #[.val (.ref a0), .val (.ref a1), .val (.int p2), .val (.int p3), .unset, .unset, .unset, .unset, .unset] [(.ref a0), (.int (2 : Int32)), (.int (p3 - p2))])) (fun t kt => ?_) ?_
  · show Steps p.tables e below (s₁.setTop (mkF m 0 #[.val (.ref a0), .val (.ref a1), .val (.int p2), .val (.int p3), .unset, .unset, .unset, .unset, .unset] [])) t
    refine XS.iloadN X0.here hx rfl (hb hby d2_0) rfl ?_
    show Steps p.tables e below (s₁.setTop (mkF m 1 #[.val (.ref a0), .val (.ref a1), .val (.int p2), .val (.int p3), .unset, .unset, .unset, .unset, .unset] [(.int p3)])) t
    refine XS.iloadN X0.here hx rfl (hb hby d2_1) rfl ?_
    show Steps p.tables e below (s₁.setTop (mkF m 2 #[.val (.ref a0), .val (.ref a1), .val (.int p2), .val (.int p3), .unset, .unset, .unset, .unset, .unset] [(.int p2), (.int p3)])) t
    refine XS.isub X0.here hx rfl (hb hby d2_2) rfl ?_
    show Steps p.tables e below (s₁.setTop (mkF m 3 #[.val (.ref a0), .val (.ref a1), .val (.int p2), .val (.int p3), .unset, .unset, .unset, .unset, .unset] [(.int (p3 - p2))])) t
    refine XS.iconst X0.here hx rfl (hb hby d2_3) ?_
    show Steps p.tables e below (s₁.setTop (mkF m 4 #[.val (.ref a0), .val (.ref a1), .val (.int p2), .val (.int p3), .unset, .unset, .unset, .unset, .unset] [(.int (2 : Int32)), (.int (p3 - p2))])) t
    refine XS.aloadN X0.here hx rfl (hb hby d2_4) rfl rfl ?_
    show Steps p.tables e below (s₁.setTop (mkF m 5 #[.val (.ref a0), .val (.ref a1), .val (.int p2), .val (.int p3), .unset, .unset, .unset, .unset, .unset] [(.ref a0), (.int (2 : Int32)), (.int (p3 - p2))])) t
    exact kt
  obtain ⟨T1, X1, e1, st1⟩ := getF X0 hx hZ hown (host := "") (Or.inl (hw _ (List.mem_of_getElem? (i := 13) rfl))) Via.refl e0 F_a0_length (g := (mkF m 5 #[.val (.ref a0), .val (.ref a1), .val (.int p2), .val (.int p3), .unset, .unset, .unset, .unset, .unset] [(.ref a0), (.int (2 : Int32)), (.int (p3 - p2))])) rfl rfl (hb hby d2_5)
  refine own_go st1 ?_
  refine own_go (T' := T1) (f' := (mkF m 13 #[.val (.ref a0), .val (.ref a1), .val (.int p2), .val (.int p3), .unset, .unset, .unset, .unset, .unset] [.null])) (fun t kt => ?_) ?_
  · show Steps p.tables e below (T1.setTop (mkF m 8 #[.val (.ref a0), .val (.ref a1), .val (.int p2), .val (.int p3), .unset, .unset, .unset, .unset, .unset] [(.int ln), (.int (2 : Int32)), (.int (p3 - p2))])) t
    refine XS.imul X1.here hx rfl (hb hby d2_8) rfl ?_
    show Steps p.tables e below (T1.setTop (mkF m 9 #[.val (.ref a0), .val (.ref a1), .val (.int p2), .val (.int p3), .unset, .unset, .unset, .unset, .unset] [(.int ((2 : Int32) * ln)), (.int (p3 - p2))])) t
    refine XS.icmpNo X1.here hx rfl (hb hby d2_9) rfl (feq (show ¬ ((p3 - p2) = ((2 : Int32) * ln)) from hne)).1 ?_
    show Steps p.tables e below (T1.setTop (mkF m 12 #[.val (.ref a0), .val (.ref a1), .val (.int p2), .val (.int p3), .unset, .unset, .unset, .unset, .unset] [])) t
    refine XS.aconstNull X1.here hx rfl (hb hby d2_12) ?_
    show Steps p.tables e below (T1.setTop (mkF m 13 #[.val (.ref a0), .val (.ref a1), .val (.int p2), .val (.int p3), .unset, .unset, .unset, .unset, .unset] [.null])) t
    exact kt
  exact own_retA X1 hP hx hlk e1 hret rfl rfl rfl (hb hby d2_13) (by decide) (by decide) ⟨rfl, rfl, rfl⟩
theorem pd_5 : parseMethodDescriptor "(B)I" = some ⟨[.byte], some .int⟩ := by decide +kernel
theorem d2_14 : decode prog_13_method_8_code 14 = .ok (.aload_n 0, 1) := by decide +kernel
theorem d2_15 : decode prog_13_method_8_code 15 = .ok (.getfield 48, 3) := by decide +kernel
theorem d2_18 : decode prog_13_method_8_code 18 = .ok (.newarray .byte, 2) := by decide +kernel
theorem d2_20 : decode prog_13_method_8_code 20 = .ok (.astore 4, 2) := by decide +kernel
theorem d2_22 : decode prog_13_method_8_code 22 = .ok (.iconst 0, 1) := by decide +kernel
theorem d2_23 : decode prog_13_method_8_code 23 = .ok (.istore 5, 2) := by decide +kernel
theorem d2_25 : decode prog_13_method_8_code 25 = .ok (.iconst 0, 1) := by decide +kernel
theorem d2_26 : decode prog_13_method_8_code 26 = .ok (.istore 6, 2) := by decide +kernel
theorem d2_28 : decode prog_13_method_8_code 28 = .ok (.iload 6, 2) := by decide +kernel
theorem d2_30 : decode prog_13_method_8_code 30 = .ok (.aload_n 0, 1) := by decide +kernel
theorem d2_31 : decode prog_13_method_8_code 31 = .ok (.getfield 48, 3) := by decide +kernel
theorem d2_34 : decode prog_13_method_8_code 34 = .ok (.if_icmp .ge 60, 3) := by decide +kernel
theorem d2_37 : decode prog_13_method_8_code 37 = .ok (.aload_n 1, 1) := by decide +kernel
theorem d2_38 : decode prog_13_method_8_code 38 = .ok (.iload_n 2, 1) := by decide +kernel
theorem d2_39 : decode prog_13_method_8_code 39 = .ok (.iconst 2, 1) := by decide +kernel
theorem d2_40 : decode prog_13_method_8_code 40 = .ok (.iload 6, 2) := by decide +kernel
theorem d2_42 : decode prog_13_method_8_code 42 = .ok (.imul, 1) := by decide +kernel
theorem d2_43 : decode prog_13_method_8_code 43 = .ok (.iadd, 1) := by decide +kernel
theorem d2_44 : decode prog_13_method_8_code 44 = .ok (.baload, 1) := by decide +kernel
theorem d2_45 : decode prog_13_method_8_code 45 = .ok (.invokestatic 86, 3) := by decide +kernel
theorem d2_48 : decode prog_13_method_8_code 48 = .ok (.istore 7, 2) := by decide +kernel
theorem d2_50 : decode prog_13_method_8_code 50 = .ok (.aload_n 1, 1) := by decide +kernel
theorem d2_51 : decode prog_13_method_8_code 51 = .ok (.iload_n 2, 1) := by decide +kernel
theorem d2_52 : decode prog_13_method_8_code 52 = .ok (.iconst 2, 1) := by decide +kernel
theorem d2_53 : decode prog_13_method_8_code 53 = .ok (.iload 6, 2) := by decide +kernel
theorem d2_55 : decode prog_13_method_8_code 55 = .ok (.imul, 1) := by decide +kernel
theorem d2_56 : decode prog_13_method_8_code 56 = .ok (.iadd, 1) := by decide +kernel
theorem d2_57 : decode prog_13_method_8_code 57 = .ok (.iconst 1, 1) := by decide +kernel
theorem d2_58 : decode prog_13_method_8_code 58 = .ok (.iadd, 1) := by decide +kernel
theorem d2_59 : decode prog_13_method_8_code 59 = .ok (.baload, 1) := by decide +kernel
theorem d2_60 : decode prog_13_method_8_code 60 = .ok (.invokestatic 86, 3) := by decide +kernel
theorem d2_63 : decode prog_13_method_8_code 63 = .ok (.istore 8, 2) := by decide +kernel
theorem d2_65 : decode prog_13_method_8_code 65 = .ok (.iload 5, 2) := by decide +kernel
theorem d2_67 : decode prog_13_method_8_code 67 = .ok (.iload 7, 2) := by decide +kernel
theorem d2_69 : decode prog_13_method_8_code 69 = .ok (.iload 8, 2) := by decide +kernel
theorem d2_71 : decode prog_13_method_8_code 71 = .ok (.ior, 1) := by decide +kernel
theorem d2_72 : decode prog_13_method_8_code 72 = .ok (.ior, 1) := by decide +kernel
theorem d2_73 : decode prog_13_method_8_code 73 = .ok (.istore 5, 2) := by decide +kernel
theorem d2_75 : decode prog_13_method_8_code 75 = .ok (.aload 4, 2) := by decide +kernel
theorem d2_77 : decode prog_13_method_8_code 77 = .ok (.iload 6, 2) := by decide +kernel
theorem d2_79 : decode prog_13_method_8_code 79 = .ok (.iload 7, 2) := by decide +kernel
theorem d2_81 : decode prog_13_method_8_code 81 = .ok (.iconst 4, 1) := by decide +kernel
theorem d2_82 : decode prog_13_method_8_code 82 = .ok (.ishl, 1) := by decide +kernel
theorem d2_83 : decode prog_13_method_8_code 83 = .ok (.iload 8, 2) := by decide +kernel
theorem d2_85 : decode prog_13_method_8_code 85 = .ok (.ior, 1) := by decide +kernel
theorem d2_86 : decode prog_13_method_8_code 86 = .ok (.i2b, 1) := by decide +kernel
theorem d2_87 : decode prog_13_method_8_code 87 = .ok (.bastore, 1) := by decide +kernel
theorem d2_88 : decode prog_13_method_8_code 88 = .ok (.iinc 6 1, 3) := by decide +kernel
theorem d2_91 : decode prog_13_method_8_code 91 = .ok (.goto (-63), 3) := by decide +kernel
theorem d2_94 : decode prog_13_method_8_code 94 = .ok (.iload 5, 2) := by decide +kernel
theorem d2_96 : decode prog_13_method_8_code 96 = .ok (.ifCond .ge 7, 3) := by decide +kernel
theorem d2_103 : decode prog_13_method_8_code 103 = .ok (.aload 4, 2) := by decide +kernel
theorem d2_105 : decode prog_13_method_8_code 105 = .ok (.areturn, 1) := by decide +kernel
set_option maxRecDepth 65536 in
set_option maxHeartbeats 4000000 in
theorem ef_2v (m : MethodId) (a0 : Addr) (a1 : Addr) (p2 : Int32) (p3 : Int32)  : entryFrame m #[(.ref a0), (.ref a1), (.int p2), (.int p3)] 9 = mkF m 0 #[.val (.ref a0), .val (.ref a1), .val (.int p2), .val (.int p3), .unset, .unset, .unset, .unset, .unset] [] := by first | (simp [entryFrame, mkF, argsToLocals, Value.category]; done) | rfl
set_option maxRecDepth 65536 in
set_option maxHeartbeats 40000000 in
theorem rm2v (l : Launch) (Z : State) (aw : Array Value) (hw : ∀ d ∈ tables_1, d.before aw Z = true) {ws : List Jvm.Cond} (a0 : Addr) (a1 : Addr) (p2 : Int32) (p3 : Int32) (f : Nat → Int32) (k : Nat) (hxa : Addr) (h0 : Heap) (n0 : Nat) (Z0 : n0 ≤ h0.size) (F_a0_length : Fld Z h0 a0 "com/example/longhold/longhold/bagit/ChecksumAlgorithm" "length" "I" (.int (16 : Int32))) (Ar_a1 : own_AB Z h0 a1 36 f) (SX : Sta Z h0 "com/example/longhold/longhold/bagit/ChecksumAlgorithm" "HEX_DIGITS" "[B" (.ref hxa)) (HX : own_AB Z h0 hxa 128 own_hf) (hk : p2.toInt = (k : Int)) (hk3 : k ≤ 3) (h3 : (p3 - p2) = ((2 : Int32) * (16 : Int32))) (hbyt : ∀ j, j < 36 → own_byte (f j)) (hbd : ¬ own_bad f k 16 < (0 : Int32)) :
    own_Met l Z (⟨"com/example/longhold/longhold/bagit/ChecksumAlgorithm", "parse", "([BII)[B"⟩ : MethodName) prog_13_method_8_code 9 (some (.array .byte)) ws ({ frames := 1, cells := 1, slots := 16, locals := 12 } : Room) #[(.ref a0), (.ref a1), (.int p2), (.int p3)] h0 (fun v h L => v = (some (.ref h0.size)) ∧ Fr n0 L ∧ Keep h0 h [] ∧ own_AB Z h h0.size 16 (own_pv f k)) := by
  refine own_body (plainFor_of_name pn_4) ?_
  intro p e s m below meth c s₁ hx hZ hby hml hown hnm hret hlk X0 e0
  replace hown : s.vm.findClass "com/example/longhold/longhold/bagit/ChecksumAlgorithm" = some m.cls := hown
  replace hml : c.maxLocals = 9 := hml
  have N0 := Fr.nil n0
  have K0 := Keep.refl h0 []
  obtain ⟨P, hP⟩ : ∃ P, P = own_P below s (fun v h L => v = (some (.ref h0.size)) ∧ Fr n0 L ∧ Keep h0 h [] ∧ own_AB Z h h0.size 16 (own_pv f k)) ({ frames := 1, cells := 1, slots := 16, locals := 12 } : Room).cells ({ frames := 1, cells := 1, slots := 16, locals := 12 } : Room).slots := ⟨_, rfl⟩
  rw [← hP]
  refine own_cast (ef_2v m a0 a1 p2 p3) ?_
  refine own_go (T' := s₁) (f' := (mkF m 5 #[.val (.ref a0), .val (.ref a1), .val (.int p2), .val (.int p3), .unset, .unset, .unset, .unset, .unset] [(.ref a0), (.int (2 : Int32)), (.int (p3 - p2))])) (fun t kt => ?_) ?_
  · show Steps p.tables e below (s₁.setTop (mkF m 0 #[.val (.ref a0), .val (.ref a1), .val (.int p2), .val (.int p3), .unset, .unset, .unset, .unset, .unset] [])) t
    refine XS.iloadN X0.here hx rfl (hb hby d2_0) rfl ?_
    show Steps p.tables e below (s₁.setTop (mkF m 1 #[.val (.ref a0), .val (.ref a1), .val (.int p2), .val (.int p3), .unset, .unset, .unset, .unset, .unset] [(.int p3)])) t
    refine XS.iloadN X0.here hx rfl (hb hby d2_1) rfl ?_
    show Steps p.tables e below (s₁.setTop (mkF m 2 #[.val (.ref a0), .val (.ref a1), .val (.int p2), .val (.int p3), .unset, .unset, .unset, .unset, .unset] [(.int p2), (.int p3)])) t
    refine XS.isub X0.here hx rfl (hb hby d2_2) rfl ?_
    show Steps p.tables e below (s₁.setTop (mkF m 3 #[.val (.ref a0), .val (.ref a1), .val (.int p2), .val (.int p3), .unset, .unset, .unset, .unset, .unset] [(.int (p3 - p2))])) t
    refine XS.iconst X0.here hx rfl (hb hby d2_3) ?_
    show Steps p.tables e below (s₁.setTop (mkF m 4 #[.val (.ref a0), .val (.ref a1), .val (.int p2), .val (.int p3), .unset, .unset, .unset, .unset, .unset] [(.int (2 : Int32)), (.int (p3 - p2))])) t
    refine XS.aloadN X0.here hx rfl (hb hby d2_4) rfl rfl ?_
    show Steps p.tables e below (s₁.setTop (mkF m 5 #[.val (.ref a0), .val (.ref a1), .val (.int p2), .val (.int p3), .unset, .unset, .unset, .unset, .unset] [(.ref a0), (.int (2 : Int32)), (.int (p3 - p2))])) t
    exact kt
  obtain ⟨T1, X1, e1, st1⟩ := getF X0 hx hZ hown (host := "") (Or.inl (hw _ (List.mem_of_getElem? (i := 13) rfl))) Via.refl e0 F_a0_length (g := (mkF m 5 #[.val (.ref a0), .val (.ref a1), .val (.int p2), .val (.int p3), .unset, .unset, .unset, .unset, .unset] [(.ref a0), (.int (2 : Int32)), (.int (p3 - p2))])) rfl rfl (hb hby d2_5)
  refine own_go st1 ?_
  refine own_go (T' := T1) (f' := (mkF m 15 #[.val (.ref a0), .val (.ref a1), .val (.int p2), .val (.int p3), .unset, .unset, .unset, .unset, .unset] [(.ref a0)])) (fun t kt => ?_) ?_
  · show Steps p.tables e below (T1.setTop (mkF m 8 #[.val (.ref a0), .val (.ref a1), .val (.int p2), .val (.int p3), .unset, .unset, .unset, .unset, .unset] [(.int (16 : Int32)), (.int (2 : Int32)), (.int (p3 - p2))])) t
    refine XS.imul X1.here hx rfl (hb hby d2_8) rfl ?_
    show Steps p.tables e below (T1.setTop (mkF m 9 #[.val (.ref a0), .val (.ref a1), .val (.int p2), .val (.int p3), .unset, .unset, .unset, .unset, .unset] [(.int ((2 : Int32) * (16 : Int32))), (.int (p3 - p2))])) t
    refine XS.icmpYes X1.here hx rfl (pc0 := 9) (pc' := 14) rfl (hb hby d2_9) rfl (teq (show (p3 - p2) = ((2 : Int32) * (16 : Int32)) from h3)).1 (by decide) (by decide) ?_
    show Steps p.tables e below (T1.setTop (mkF m 14 #[.val (.ref a0), .val (.ref a1), .val (.int p2), .val (.int p3), .unset, .unset, .unset, .unset, .unset] [])) t
    refine XS.aloadN X1.here hx rfl (hb hby d2_14) rfl rfl ?_
    show Steps p.tables e below (T1.setTop (mkF m 15 #[.val (.ref a0), .val (.ref a1), .val (.int p2), .val (.int p3), .unset, .unset, .unset, .unset, .unset] [(.ref a0)])) t
    exact kt
  obtain ⟨T2, X2, e2, st2⟩ := getF X1 hx hZ hown (host := "") (Or.inl (hw _ (List.mem_of_getElem? (i := 13) rfl))) Via.refl e1 F_a0_length (g := (mkF m 15 #[.val (.ref a0), .val (.ref a1), .val (.int p2), .val (.int p3), .unset, .unset, .unset, .unset, .unset] [(.ref a0)])) rfl rfl (hb hby d2_15)
  refine own_go st2 ?_
  obtain ⟨T3, h3, k3, X3, e3, E3, A3, st3⟩ := newP X2 hx hZ (hw _ (List.mem_of_getElem? (i := 0) rfl)) e2 (g := (mkF m 18 #[.val (.ref a0), .val (.ref a1), .val (.int p2), .val (.int p3), .unset, .unset, .unset, .unset, .unset] [(.int (16 : Int32))])) rfl (hb hby d2_18) rfl (by decide) (cap := 16) (by decide) (by decide) (by decide) (by decide)
  obtain ⟨b3, y3⟩ : ∃ z, z = h0.size := ⟨_, rfl⟩
  rw [← y3] at A3 st3
  have ne_a0_b3 : a0 ≠ b3 := Nat.ne_of_lt (Nat.lt_of_lt_of_le F_a0_length.lt (Nat.le_of_eq y3.symm))
  have ne_b3_a0 := ne_a0_b3.symm
  have ne_a1_b3 : a1 ≠ b3 := Nat.ne_of_lt (Nat.lt_of_lt_of_le Ar_a1.lt (Nat.le_of_eq y3.symm))
  have ne_b3_a1 := ne_a1_b3.symm
  have g_b3 : n0 ≤ b3 := Nat.le_trans Z0 (Nat.le_of_eq y3.symm)
  have sz_b3 : h0.size ≤ b3 := Nat.le_trans K0.1 (Nat.le_of_eq y3.symm)
  replace F_a0_length := (F_a0_length.ext E3)
  replace Ar_a1 := (Ar_a1.ext E3)
  have ZE3 : n0 ≤ h3.size := Nat.le_trans Z0 E3.1
  have KKE3 := K0.ext E3
  refine own_go st3 ?_
  have Ar_b3 : own_AB Z h3 b3 16 (fun _ => (0 : Int32)) := own_A_new A3 (by decide)
  refine own_go (T' := T3) (f' := (mkF m 28 #[.val (.ref a0), .val (.ref a1), .val (.int p2), .val (.int p3), .val (.ref b3), .val (.int (0 : Int32)), .val (.int (0 : Int32)), .unset, .unset] [])) (fun t kt => ?_) ?_
  · show Steps p.tables e below (T3.setTop (mkF m 20 #[.val (.ref a0), .val (.ref a1), .val (.int p2), .val (.int p3), .unset, .unset, .unset, .unset, .unset] [(.ref b3)])) t
    refine XS.astore X3.here hx rfl (hb hby d2_20) rfl rfl (l' := #[.val (.ref a0), .val (.ref a1), .val (.int p2), .val (.int p3), .val (.ref b3), .unset, .unset, .unset, .unset]) rfl ?_
    show Steps p.tables e below (T3.setTop (mkF m 22 #[.val (.ref a0), .val (.ref a1), .val (.int p2), .val (.int p3), .val (.ref b3), .unset, .unset, .unset, .unset] [])) t
    refine XS.iconst X3.here hx rfl (hb hby d2_22) ?_
    show Steps p.tables e below (T3.setTop (mkF m 23 #[.val (.ref a0), .val (.ref a1), .val (.int p2), .val (.int p3), .val (.ref b3), .unset, .unset, .unset, .unset] [(.int (0 : Int32))])) t
    refine XS.istore X3.here hx rfl (hb hby d2_23) rfl (l' := #[.val (.ref a0), .val (.ref a1), .val (.int p2), .val (.int p3), .val (.ref b3), .val (.int (0 : Int32)), .unset, .unset, .unset]) rfl ?_
    show Steps p.tables e below (T3.setTop (mkF m 25 #[.val (.ref a0), .val (.ref a1), .val (.int p2), .val (.int p3), .val (.ref b3), .val (.int (0 : Int32)), .unset, .unset, .unset] [])) t
    refine XS.iconst X3.here hx rfl (hb hby d2_25) ?_
    show Steps p.tables e below (T3.setTop (mkF m 26 #[.val (.ref a0), .val (.ref a1), .val (.int p2), .val (.int p3), .val (.ref b3), .val (.int (0 : Int32)), .unset, .unset, .unset] [(.int (0 : Int32))])) t
    refine XS.istore X3.here hx rfl (hb hby d2_26) rfl (l' := #[.val (.ref a0), .val (.ref a1), .val (.int p2), .val (.int p3), .val (.ref b3), .val (.int (0 : Int32)), .val (.int (0 : Int32)), .unset, .unset]) rfl ?_
    show Steps p.tables e below (T3.setTop (mkF m 28 #[.val (.ref a0), .val (.ref a1), .val (.int p2), .val (.int p3), .val (.ref b3), .val (.int (0 : Int32)), .val (.int (0 : Int32)), .unset, .unset] [])) t
    exact kt
  have J28 : ∀ (kk : Nat) (Tj4 : State) (lj4 : List Loc) (hj4 : Heap) (g : Nat → Int32) (ii : Int32) (j : Nat) (bad : Int32) (s7 : Slot) (s8 : Slot) (Xj4 : Stand p l e ({ frames := 1, cells := 1, slots := 16, locals := 12 } : Room) s m #[(.ref a0), (.ref a1), (.int p2), (.int p3)] below meth c Tj4 lj4 1 16) (Nj4 : Fr n0 lj4) (ej4 : Tj4.heap = hj4) (Zj4 : n0 ≤ hj4.size) (Kj4 : Keep h0 hj4 []) (fj4_0 : Fld Z hj4 a0 "com/example/longhold/longhold/bagit/ChecksumAlgorithm" "length" "I" (.int (16 : Int32))) (fj4_1 : own_AB Z hj4 a1 36 f) (fj4_2 : own_AB Z hj4 b3 16 g) (hj : ii.toInt = (j : Int)) (hj16 : j ≤ 16) (hbad : bad = own_bad f k j) (hg : ∀ q, q < j → g q = own_pv f k q) (hkk : kk = 16 - j) (hs7 : One s7) (hs8 : One s8), own_End p e below P Tj4 (mkF m 28 #[.val (.ref a0), .val (.ref a1), .val (.int p2), .val (.int p3), .val (.ref b3), .val (.int bad), .val (.int ii), s7, s8] []) := by
    intro kk
    induction kk using Nat.strongRecOn with
    | _ kk IHJ28 =>
    intro Tj4 lj4 hj4 g ii j bad s7 s8 Xj4 Nj4 ej4 Zj4 Kj4 fj4_0 fj4_1 fj4_2 hj hj16 hbad hg hkk hs7 hs8
    refine own_go (T' := Tj4) (f' := (mkF m 31 #[.val (.ref a0), .val (.ref a1), .val (.int p2), .val (.int p3), .val (.ref b3), .val (.int bad), .val (.int ii), s7, s8] [(.ref a0), (.int ii)])) (fun t kt => ?_) ?_
    · show Steps p.tables e below (Tj4.setTop (mkF m 28 #[.val (.ref a0), .val (.ref a1), .val (.int p2), .val (.int p3), .val (.ref b3), .val (.int bad), .val (.int ii), s7, s8] [])) t
      refine XS.iload Xj4.here hx rfl (hb hby d2_28) rfl ?_
      show Steps p.tables e below (Tj4.setTop (mkF m 30 #[.val (.ref a0), .val (.ref a1), .val (.int p2), .val (.int p3), .val (.ref b3), .val (.int bad), .val (.int ii), s7, s8] [(.int ii)])) t
      refine XS.aloadN Xj4.here hx rfl (hb hby d2_30) rfl rfl ?_
      show Steps p.tables e below (Tj4.setTop (mkF m 31 #[.val (.ref a0), .val (.ref a1), .val (.int p2), .val (.int p3), .val (.ref b3), .val (.int bad), .val (.int ii), s7, s8] [(.ref a0), (.int ii)])) t
      exact kt
    obtain ⟨T5, X5, e5, st5⟩ := getF Xj4 hx hZ hown (host := "") (Or.inl (hw _ (List.mem_of_getElem? (i := 13) rfl))) Via.refl ej4 fj4_0 (g := (mkF m 31 #[.val (.ref a0), .val (.ref a1), .val (.int p2), .val (.int p3), .val (.ref b3), .val (.int bad), .val (.int ii), s7, s8] [(.ref a0), (.int ii)])) rfl rfl (hb hby d2_31)
    refine own_go st5 ?_
    by_cases hc34_6 : ii < (16 : Int32)
    · refine own_go (T' := T5) (f' := (mkF m 37 #[.val (.ref a0), .val (.ref a1), .val (.int p2), .val (.int p3), .val (.ref b3), .val (.int bad), .val (.int ii), s7, s8] [])) (fun t kt => ?_) ?_
      · show Steps p.tables e below (T5.setTop (mkF m 34 #[.val (.ref a0), .val (.ref a1), .val (.int p2), .val (.int p3), .val (.ref b3), .val (.int bad), .val (.int ii), s7, s8] [(.int (16 : Int32)), (.int ii)])) t
        refine XS.icmpNo X5.here hx rfl (hb hby d2_34) rfl (tlt hc34_6).2.1 ?_
        show Steps p.tables e below (T5.setTop (mkF m 37 #[.val (.ref a0), .val (.ref a1), .val (.int p2), .val (.int p3), .val (.ref b3), .val (.int bad), .val (.int ii), s7, s8] [])) t
        exact kt
      have hj2 := own_lt16 hj hc34_6
      refine own_go (T' := T5) (f' := (mkF m 45 #[.val (.ref a0), .val (.ref a1), .val (.int p2), .val (.int p3), .val (.ref b3), .val (.int bad), .val (.int ii), s7, s8] [(.int (f (k + 2 * j)))])) (fun t kt => ?_) ?_
      · show Steps p.tables e below (T5.setTop (mkF m 37 #[.val (.ref a0), .val (.ref a1), .val (.int p2), .val (.int p3), .val (.ref b3), .val (.int bad), .val (.int ii), s7, s8] [])) t
        refine XS.aloadN X5.here hx rfl (hb hby d2_37) rfl rfl ?_
        show Steps p.tables e below (T5.setTop (mkF m 38 #[.val (.ref a0), .val (.ref a1), .val (.int p2), .val (.int p3), .val (.ref b3), .val (.int bad), .val (.int ii), s7, s8] [(.ref a1)])) t
        refine XS.iloadN X5.here hx rfl (hb hby d2_38) rfl ?_
        show Steps p.tables e below (T5.setTop (mkF m 39 #[.val (.ref a0), .val (.ref a1), .val (.int p2), .val (.int p3), .val (.ref b3), .val (.int bad), .val (.int ii), s7, s8] [(.int p2), (.ref a1)])) t
        refine XS.iconst X5.here hx rfl (hb hby d2_39) ?_
        show Steps p.tables e below (T5.setTop (mkF m 40 #[.val (.ref a0), .val (.ref a1), .val (.int p2), .val (.int p3), .val (.ref b3), .val (.int bad), .val (.int ii), s7, s8] [(.int (2 : Int32)), (.int p2), (.ref a1)])) t
        refine XS.iload X5.here hx rfl (hb hby d2_40) rfl ?_
        show Steps p.tables e below (T5.setTop (mkF m 42 #[.val (.ref a0), .val (.ref a1), .val (.int p2), .val (.int p3), .val (.ref b3), .val (.int bad), .val (.int ii), s7, s8] [(.int ii), (.int (2 : Int32)), (.int p2), (.ref a1)])) t
        refine XS.imul X5.here hx rfl (hb hby d2_42) rfl ?_
        show Steps p.tables e below (T5.setTop (mkF m 43 #[.val (.ref a0), .val (.ref a1), .val (.int p2), .val (.int p3), .val (.ref b3), .val (.int bad), .val (.int ii), s7, s8] [(.int ((2 : Int32) * ii)), (.int p2), (.ref a1)])) t
        refine XS.iadd X5.here hx rfl (hb hby d2_43) rfl ?_
        show Steps p.tables e below (T5.setTop (mkF m 44 #[.val (.ref a0), .val (.ref a1), .val (.int p2), .val (.int p3), .val (.ref b3), .val (.int bad), .val (.int ii), s7, s8] [(.int (p2 + ((2 : Int32) * ii))), (.ref a1)])) t
        refine own_baload X5 hx hZ e5 fj4_1 (i := (k + 2 * j)) (own_ixl hk hk3 hj (by omega)) (by omega) (g := (mkF m 44 #[.val (.ref a0), .val (.ref a1), .val (.int p2), .val (.int p3), .val (.ref b3), .val (.int bad), .val (.int ii), s7, s8] [(.int (p2 + ((2 : Int32) * ii))), (.ref a1)])) rfl rfl (hb hby d2_44) _ ?_
        show Steps p.tables e below (T5.setTop (mkF m 45 #[.val (.ref a0), .val (.ref a1), .val (.int p2), .val (.int p3), .val (.ref b3), .val (.int bad), .val (.int ii), s7, s8] [(.int (f (k + 2 * j)))])) t
        exact kt
      refine own_callSp X5 hx hZ hown e5 (hw _ (List.mem_of_getElem? (i := 15) rfl)) (hw _ (List.mem_of_getElem? (i := 16) rfl)) (hw _ (List.mem_of_getElem? (i := 6) rfl)) (hw _ (List.mem_of_getElem? (i := 17) rfl)) (by decide) (rm3 l Z aw hw (f (k + 2 * j)) hxa hj4 n0 Zj4 (own_sta_keep SX Kj4) (HX.keep Kj4 (by simp)) (hbyt _ (by omega))) (g := (mkF m 45 #[.val (.ref a0), .val (.ref a1), .val (.int p2), .val (.int p3), .val (.ref b3), .val (.int bad), .val (.int ii), s7, s8] [(.int (f (k + 2 * j)))])) rfl (by rw [hml]; rfl) (argsL := [(.int (f (k + 2 * j)))]) (rest := []) (lenOf pd_5 rfl) rfl rfl (W := 0) (by show 2 * 0 + _ ≤ _; exact Nat.le_of_eq rfl) (hb hby d2_45) (by decide) (by decide) (by decide) (by decide) ?_
      intro T7 X7 e7
      refine own_go (T' := T7) (f' := (mkF m 60 #[.val (.ref a0), .val (.ref a1), .val (.int p2), .val (.int p3), .val (.ref b3), .val (.int bad), .val (.int ii), .val (.int (own_hx (f (k + 2 * j)))), s8] [(.int (f (k + 2 * j + 1)))])) (fun t kt => ?_) ?_
      · show Steps p.tables e below (T7.setTop (mkF m 48 #[.val (.ref a0), .val (.ref a1), .val (.int p2), .val (.int p3), .val (.ref b3), .val (.int bad), .val (.int ii), s7, s8] [(.int (own_hx (f (k + 2 * j))))])) t
        refine XS.istoreS X7.here hx rfl (hb hby d2_48) rfl rfl hs7 ?_
        show Steps p.tables e below (T7.setTop (mkF m 50 #[.val (.ref a0), .val (.ref a1), .val (.int p2), .val (.int p3), .val (.ref b3), .val (.int bad), .val (.int ii), .val (.int (own_hx (f (k + 2 * j)))), s8] [])) t
        refine XS.aloadN X7.here hx rfl (hb hby d2_50) rfl rfl ?_
        show Steps p.tables e below (T7.setTop (mkF m 51 #[.val (.ref a0), .val (.ref a1), .val (.int p2), .val (.int p3), .val (.ref b3), .val (.int bad), .val (.int ii), .val (.int (own_hx (f (k + 2 * j)))), s8] [(.ref a1)])) t
        refine XS.iloadN X7.here hx rfl (hb hby d2_51) rfl ?_
        show Steps p.tables e below (T7.setTop (mkF m 52 #[.val (.ref a0), .val (.ref a1), .val (.int p2), .val (.int p3), .val (.ref b3), .val (.int bad), .val (.int ii), .val (.int (own_hx (f (k + 2 * j)))), s8] [(.int p2), (.ref a1)])) t
        refine XS.iconst X7.here hx rfl (hb hby d2_52) ?_
        show Steps p.tables e below (T7.setTop (mkF m 53 #[.val (.ref a0), .val (.ref a1), .val (.int p2), .val (.int p3), .val (.ref b3), .val (.int bad), .val (.int ii), .val (.int (own_hx (f (k + 2 * j)))), s8] [(.int (2 : Int32)), (.int p2), (.ref a1)])) t
        refine XS.iload X7.here hx rfl (hb hby d2_53) rfl ?_
        show Steps p.tables e below (T7.setTop (mkF m 55 #[.val (.ref a0), .val (.ref a1), .val (.int p2), .val (.int p3), .val (.ref b3), .val (.int bad), .val (.int ii), .val (.int (own_hx (f (k + 2 * j)))), s8] [(.int ii), (.int (2 : Int32)), (.int p2), (.ref a1)])) t
        refine XS.imul X7.here hx rfl (hb hby d2_55) rfl ?_
        show Steps p.tables e below (T7.setTop (mkF m 56 #[.val (.ref a0), .val (.ref a1), .val (.int p2), .val (.int p3), .val (.ref b3), .val (.int bad), .val (.int ii), .val (.int (own_hx (f (k + 2 * j)))), s8] [(.int ((2 : Int32) * ii)), (.int p2), (.ref a1)])) t
        refine XS.iadd X7.here hx rfl (hb hby d2_56) rfl ?_
        show Steps p.tables e below (T7.setTop (mkF m 57 #[.val (.ref a0), .val (.ref a1), .val (.int p2), .val (.int p3), .val (.ref b3), .val (.int bad), .val (.int ii), .val (.int (own_hx (f (k + 2 * j)))), s8] [(.int (p2 + ((2 : Int32) * ii))), (.ref a1)])) t
        refine XS.iconst X7.here hx rfl (hb hby d2_57) ?_
        show Steps p.tables e below (T7.setTop (mkF m 58 #[.val (.ref a0), .val (.ref a1), .val (.int p2), .val (.int p3), .val (.ref b3), .val (.int bad), .val (.int ii), .val (.int (own_hx (f (k + 2 * j)))), s8] [(.int (1 : Int32)), (.int (p2 + ((2 : Int32) * ii))), (.ref a1)])) t
        refine XS.iadd X7.here hx rfl (hb hby d2_58) rfl ?_
        show Steps p.tables e below (T7.setTop (mkF m 59 #[.val (.ref a0), .val (.ref a1), .val (.int p2), .val (.int p3), .val (.ref b3), .val (.int bad), .val (.int ii), .val (.int (own_hx (f (k + 2 * j)))), s8] [(.int ((p2 + ((2 : Int32) * ii)) + (1 : Int32))), (.ref a1)])) t
        refine own_baload X7 hx hZ e7 fj4_1 (i := (k + 2 * j + 1)) (own_ixl1 hk hk3 hj (by omega)) (by omega) (g := (mkF m 59 #[.val (.ref a0), .val (.ref a1), .val (.int p2), .val (.int p3), .val (.ref b3), .val (.int bad), .val (.int ii), .val (.int (own_hx (f (k + 2 * j)))), s8] [(.int ((p2 + ((2 : Int32) * ii)) + (1 : Int32))), (.ref a1)])) rfl rfl (hb hby d2_59) _ ?_
        show Steps p.tables e below (T7.setTop (mkF m 60 #[.val (.ref a0), .val (.ref a1), .val (.int p2), .val (.int p3), .val (.ref b3), .val (.int bad), .val (.int ii), .val (.int (own_hx (f (k + 2 * j)))), s8] [(.int (f (k + 2 * j + 1)))])) t
        exact kt
      refine own_callSp X7 hx hZ hown e7 (hw _ (List.mem_of_getElem? (i := 15) rfl)) (hw _ (List.mem_of_getElem? (i := 16) rfl)) (hw _ (List.mem_of_getElem? (i := 6) rfl)) (hw _ (List.mem_of_getElem? (i := 17) rfl)) (by decide) (rm3 l Z aw hw (f (k + 2 * j + 1)) hxa hj4 n0 Zj4 (own_sta_keep SX Kj4) (HX.keep Kj4 (by simp)) (hbyt _ (by omega))) (g := (mkF m 60 #[.val (.ref a0), .val (.ref a1), .val (.int p2), .val (.int p3), .val (.ref b3), .val (.int bad), .val (.int ii), .val (.int (own_hx (f (k + 2 * j)))), s8] [(.int (f (k + 2 * j + 1)))])) rfl (by rw [hml]; rfl) (argsL := [(.int (f (k + 2 * j + 1)))]) (rest := []) (lenOf pd_5 rfl) rfl rfl (W := 0) (by show 2 * 0 + _ ≤ _; exact Nat.le_of_eq rfl) (hb hby d2_60) (by decide) (by decide) (by decide) (by decide) ?_
      intro T8 X8 e8
      refine own_go (T' := T8) (f' := (mkF m 87 #[.val (.ref a0), .val (.ref a1), .val (.int p2), .val (.int p3), .val (.ref b3), .val (.int (bad ||| ((own_hx (f (k + 2 * j))) ||| (own_hx (f (k + 2 * j + 1)))))), .val (.int ii), .val (.int (own_hx (f (k + 2 * j)))), .val (.int (own_hx (f (k + 2 * j + 1))))] [(.int ((((own_hx (f (k + 2 * j))) <<< ((4 : Int32) &&& 31)) ||| (own_hx (f (k + 2 * j + 1)))).toInt8.toInt32)), (.int ii), (.ref b3)])) (fun t kt => ?_) ?_
      · show Steps p.tables e below (T8.setTop (mkF m 63 #[.val (.ref a0), .val (.ref a1), .val (.int p2), .val (.int p3), .val (.ref b3), .val (.int bad), .val (.int ii), .val (.int (own_hx (f (k + 2 * j)))), s8] [(.int (own_hx (f (k + 2 * j + 1))))])) t
        refine XS.istoreS X8.here hx rfl (hb hby d2_63) rfl rfl hs8 ?_
        show Steps p.tables e below (T8.setTop (mkF m 65 #[.val (.ref a0), .val (.ref a1), .val (.int p2), .val (.int p3), .val (.ref b3), .val (.int bad), .val (.int ii), .val (.int (own_hx (f (k + 2 * j)))), .val (.int (own_hx (f (k + 2 * j + 1))))] [])) t
        refine XS.iload X8.here hx rfl (hb hby d2_65) rfl ?_
        show Steps p.tables e below (T8.setTop (mkF m 67 #[.val (.ref a0), .val (.ref a1), .val (.int p2), .val (.int p3), .val (.ref b3), .val (.int bad), .val (.int ii), .val (.int (own_hx (f (k + 2 * j)))), .val (.int (own_hx (f (k + 2 * j + 1))))] [(.int bad)])) t
        refine XS.iload X8.here hx rfl (hb hby d2_67) rfl ?_
        show Steps p.tables e below (T8.setTop (mkF m 69 #[.val (.ref a0), .val (.ref a1), .val (.int p2), .val (.int p3), .val (.ref b3), .val (.int bad), .val (.int ii), .val (.int (own_hx (f (k + 2 * j)))), .val (.int (own_hx (f (k + 2 * j + 1))))] [(.int (own_hx (f (k + 2 * j)))), (.int bad)])) t
        refine XS.iload X8.here hx rfl (hb hby d2_69) rfl ?_
        show Steps p.tables e below (T8.setTop (mkF m 71 #[.val (.ref a0), .val (.ref a1), .val (.int p2), .val (.int p3), .val (.ref b3), .val (.int bad), .val (.int ii), .val (.int (own_hx (f (k + 2 * j)))), .val (.int (own_hx (f (k + 2 * j + 1))))] [(.int (own_hx (f (k + 2 * j + 1)))), (.int (own_hx (f (k + 2 * j)))), (.int bad)])) t
        refine XS.ior X8.here hx rfl (hb hby d2_71) rfl ?_
        show Steps p.tables e below (T8.setTop (mkF m 72 #[.val (.ref a0), .val (.ref a1), .val (.int p2), .val (.int p3), .val (.ref b3), .val (.int bad), .val (.int ii), .val (.int (own_hx (f (k + 2 * j)))), .val (.int (own_hx (f (k + 2 * j + 1))))] [(.int ((own_hx (f (k + 2 * j))) ||| (own_hx (f (k + 2 * j + 1))))), (.int bad)])) t
        refine XS.ior X8.here hx rfl (hb hby d2_72) rfl ?_
        show Steps p.tables e below (T8.setTop (mkF m 73 #[.val (.ref a0), .val (.ref a1), .val (.int p2), .val (.int p3), .val (.ref b3), .val (.int bad), .val (.int ii), .val (.int (own_hx (f (k + 2 * j)))), .val (.int (own_hx (f (k + 2 * j + 1))))] [(.int (bad ||| ((own_hx (f (k + 2 * j))) ||| (own_hx (f (k + 2 * j + 1))))))])) t
        refine XS.istore X8.here hx rfl (hb hby d2_73) rfl (l' := #[.val (.ref a0), .val (.ref a1), .val (.int p2), .val (.int p3), .val (.ref b3), .val (.int (bad ||| ((own_hx (f (k + 2 * j))) ||| (own_hx (f (k + 2 * j + 1)))))), .val (.int ii), .val (.int (own_hx (f (k + 2 * j)))), .val (.int (own_hx (f (k + 2 * j + 1))))]) rfl ?_
        show Steps p.tables e below (T8.setTop (mkF m 75 #[.val (.ref a0), .val (.ref a1), .val (.int p2), .val (.int p3), .val (.ref b3), .val (.int (bad ||| ((own_hx (f (k + 2 * j))) ||| (own_hx (f (k + 2 * j + 1)))))), .val (.int ii), .val (.int (own_hx (f (k + 2 * j)))), .val (.int (own_hx (f (k + 2 * j + 1))))] [])) t
        refine XS.aload X8.here hx rfl (hb hby d2_75) rfl rfl ?_
        show Steps p.tables e below (T8.setTop (mkF m 77 #[.val (.ref a0), .val (.ref a1), .val (.int p2), .val (.int p3), .val (.ref b3), .val (.int (bad ||| ((own_hx (f (k + 2 * j))) ||| (own_hx (f (k + 2 * j + 1)))))), .val (.int ii), .val (.int (own_hx (f (k + 2 * j)))), .val (.int (own_hx (f (k + 2 * j + 1))))] [(.ref b3)])) t
        refine XS.iload X8.here hx rfl (hb hby d2_77) rfl ?_
        show Steps p.tables e below (T8.setTop (mkF m 79 #[.val (.ref a0), .val (.ref a1), .val (.int p2), .val (.int p3), .val (.ref b3), .val (.int (bad ||| ((own_hx (f (k + 2 * j))) ||| (own_hx (f (k + 2 * j + 1)))))), .val (.int ii), .val (.int (own_hx (f (k + 2 * j)))), .val (.int (own_hx (f (k + 2 * j + 1))))] [(.int ii), (.ref b3)])) t
        refine XS.iload X8.here hx rfl (hb hby d2_79) rfl ?_
        show Steps p.tables e below (T8.setTop (mkF m 81 #[.val (.ref a0), .val (.ref a1), .val (.int p2), .val (.int p3), .val (.ref b3), .val (.int (bad ||| ((own_hx (f (k + 2 * j))) ||| (own_hx (f (k + 2 * j + 1)))))), .val (.int ii), .val (.int (own_hx (f (k + 2 * j)))), .val (.int (own_hx (f (k + 2 * j + 1))))] [(.int (own_hx (f (k + 2 * j)))), (.int ii), (.ref b3)])) t
        refine XS.iconst X8.here hx rfl (hb hby d2_81) ?_
        show Steps p.tables e below (T8.setTop (mkF m 82 #[.val (.ref a0), .val (.ref a1), .val (.int p2), .val (.int p3), .val (.ref b3), .val (.int (bad ||| ((own_hx (f (k + 2 * j))) ||| (own_hx (f (k + 2 * j + 1)))))), .val (.int ii), .val (.int (own_hx (f (k + 2 * j)))), .val (.int (own_hx (f (k + 2 * j + 1))))] [(.int (4 : Int32)), (.int (own_hx (f (k + 2 * j)))), (.int ii), (.ref b3)])) t
        refine XS.ishl X8.here hx rfl (hb hby d2_82) rfl ?_
        show Steps p.tables e below (T8.setTop (mkF m 83 #[.val (.ref a0), .val (.ref a1), .val (.int p2), .val (.int p3), .val (.ref b3), .val (.int (bad ||| ((own_hx (f (k + 2 * j))) ||| (own_hx (f (k + 2 * j + 1)))))), .val (.int ii), .val (.int (own_hx (f (k + 2 * j)))), .val (.int (own_hx (f (k + 2 * j + 1))))] [(.int ((own_hx (f (k + 2 * j))) <<< ((4 : Int32) &&& 31))), (.int ii), (.ref b3)])) t
        refine XS.iload X8.here hx rfl (hb hby d2_83) rfl ?_
        show Steps p.tables e below (T8.setTop (mkF m 85 #[.val (.ref a0), .val (.ref a1), .val (.int p2), .val (.int p3), .val (.ref b3), .val (.int (bad ||| ((own_hx (f (k + 2 * j))) ||| (own_hx (f (k + 2 * j + 1)))))), .val (.int ii), .val (.int (own_hx (f (k + 2 * j)))), .val (.int (own_hx (f (k + 2 * j + 1))))] [(.int (own_hx (f (k + 2 * j + 1)))), (.int ((own_hx (f (k + 2 * j))) <<< ((4 : Int32) &&& 31))), (.int ii), (.ref b3)])) t
        refine XS.ior X8.here hx rfl (hb hby d2_85) rfl ?_
        show Steps p.tables e below (T8.setTop (mkF m 86 #[.val (.ref a0), .val (.ref a1), .val (.int p2), .val (.int p3), .val (.ref b3), .val (.int (bad ||| ((own_hx (f (k + 2 * j))) ||| (own_hx (f (k + 2 * j + 1)))))), .val (.int ii), .val (.int (own_hx (f (k + 2 * j)))), .val (.int (own_hx (f (k + 2 * j + 1))))] [(.int (((own_hx (f (k + 2 * j))) <<< ((4 : Int32) &&& 31)) ||| (own_hx (f (k + 2 * j + 1))))), (.int ii), (.ref b3)])) t
        refine XS.i2b X8.here hx rfl (hb hby d2_86) rfl ?_
        show Steps p.tables e below (T8.setTop (mkF m 87 #[.val (.ref a0), .val (.ref a1), .val (.int p2), .val (.int p3), .val (.ref b3), .val (.int (bad ||| ((own_hx (f (k + 2 * j))) ||| (own_hx (f (k + 2 * j + 1)))))), .val (.int ii), .val (.int (own_hx (f (k + 2 * j)))), .val (.int (own_hx (f (k + 2 * j + 1))))] [(.int ((((own_hx (f (k + 2 * j))) <<< ((4 : Int32) &&& 31)) ||| (own_hx (f (k + 2 * j + 1)))).toInt8.toInt32)), (.int ii), (.ref b3)])) t
        exact kt
      obtain ⟨T9, h9, X9, e9, W9, B9, st9⟩ := own_bastore X8 hx hZ e8 fj4_2 (i := j) hj (by omega) (g := (mkF m 87 #[.val (.ref a0), .val (.ref a1), .val (.int p2), .val (.int p3), .val (.ref b3), .val (.int (bad ||| ((own_hx (f (k + 2 * j))) ||| (own_hx (f (k + 2 * j + 1)))))), .val (.int ii), .val (.int (own_hx (f (k + 2 * j)))), .val (.int (own_hx (f (k + 2 * j + 1))))] [(.int ((((own_hx (f (k + 2 * j))) <<< ((4 : Int32) &&& 31)) ||| (own_hx (f (k + 2 * j + 1)))).toInt8.toInt32)), (.int ii), (.ref b3)])) rfl rfl (hb hby d2_87)
      refine own_go st9 ?_
      replace fj4_0 := (fj4_0.other W9 (Or.inl (ne_a0_b3)))
      replace fj4_1 := (fj4_1.other W9 (ne_a1_b3))
      have N9 := Fr.snoc X9 Nj4 g_b3
      have Z9 : n0 ≤ h9.size := Nat.le_trans Zj4 (Keep.of_wr W9).1
      have KK9 := Kj4.wr W9 (Or.inr sz_b3)
      refine own_go (T' := T9) (f' := (mkF m 28 #[.val (.ref a0), .val (.ref a1), .val (.int p2), .val (.int p3), .val (.ref b3), .val (.int (bad ||| ((own_hx (f (k + 2 * j))) ||| (own_hx (f (k + 2 * j + 1)))))), .val (.int (ii + (1 : Int32))), .val (.int (own_hx (f (k + 2 * j)))), .val (.int (own_hx (f (k + 2 * j + 1))))] [])) (fun t kt => ?_) ?_
      · show Steps p.tables e below (T9.setTop (mkF m 88 #[.val (.ref a0), .val (.ref a1), .val (.int p2), .val (.int p3), .val (.ref b3), .val (.int (bad ||| ((own_hx (f (k + 2 * j))) ||| (own_hx (f (k + 2 * j + 1)))))), .val (.int ii), .val (.int (own_hx (f (k + 2 * j)))), .val (.int (own_hx (f (k + 2 * j + 1))))] [])) t
        refine XS.iinc X9.here hx rfl (hb hby d2_88) rfl (l' := #[.val (.ref a0), .val (.ref a1), .val (.int p2), .val (.int p3), .val (.ref b3), .val (.int (bad ||| ((own_hx (f (k + 2 * j))) ||| (own_hx (f (k + 2 * j + 1)))))), .val (.int (ii + (1 : Int32))), .val (.int (own_hx (f (k + 2 * j)))), .val (.int (own_hx (f (k + 2 * j + 1))))]) rfl ?_
        show Steps p.tables e below (T9.setTop (mkF m 91 #[.val (.ref a0), .val (.ref a1), .val (.int p2), .val (.int p3), .val (.ref b3), .val (.int (bad ||| ((own_hx (f (k + 2 * j))) ||| (own_hx (f (k + 2 * j + 1)))))), .val (.int (ii + (1 : Int32))), .val (.int (own_hx (f (k + 2 * j)))), .val (.int (own_hx (f (k + 2 * j + 1))))] [])) t
        refine XS.goto X9.here hx rfl (pc0 := 91) (pc' := 28) rfl (hb hby d2_91) (by decide) (by decide) ?_
        show Steps p.tables e below (T9.setTop (mkF m 28 #[.val (.ref a0), .val (.ref a1), .val (.int p2), .val (.int p3), .val (.ref b3), .val (.int (bad ||| ((own_hx (f (k + 2 * j))) ||| (own_hx (f (k + 2 * j + 1)))))), .val (.int (ii + (1 : Int32))), .val (.int (own_hx (f (k + 2 * j)))), .val (.int (own_hx (f (k + 2 * j + 1))))] [])) t
        exact kt
      exact IHJ28 (16 - (j + 1)) (by omega) T9 _ h9 (own_set g j (((((own_hx (f (k + 2 * j))) <<< ((4 : Int32) &&& 31)) ||| (own_hx (f (k + 2 * j + 1)))).toInt8.toInt32).toInt8.toInt32)) (ii + (1 : Int32)) (j + 1) (bad ||| ((own_hx (f (k + 2 * j))) ||| (own_hx (f (k + 2 * j + 1))))) (.val (.int (own_hx (f (k + 2 * j))))) (.val (.int (own_hx (f (k + 2 * j + 1))))) X9 N9 e9 Z9 KK9 fj4_0 fj4_1 B9 (own_inc1 hj hj2) (by omega) (by rw [hbad]; rfl) (own_pvs hg) rfl (One.val rfl) (One.val rfl)
    · refine own_go (T' := T5) (f' := (mkF m 94 #[.val (.ref a0), .val (.ref a1), .val (.int p2), .val (.int p3), .val (.ref b3), .val (.int bad), .val (.int ii), s7, s8] [])) (fun t kt => ?_) ?_
      · show Steps p.tables e below (T5.setTop (mkF m 34 #[.val (.ref a0), .val (.ref a1), .val (.int p2), .val (.int p3), .val (.ref b3), .val (.int bad), .val (.int ii), s7, s8] [(.int (16 : Int32)), (.int ii)])) t
        refine XS.icmpYes X5.here hx rfl (pc0 := 34) (pc' := 94) rfl (hb hby d2_34) rfl (flt hc34_6).2.1 (by decide) (by decide) ?_
        show Steps p.tables e below (T5.setTop (mkF m 94 #[.val (.ref a0), .val (.ref a1), .val (.int p2), .val (.int p3), .val (.ref b3), .val (.int bad), .val (.int ii), s7, s8] [])) t
        exact kt
      have hj3 := own_eq16 hj hc34_6 hj16
      subst hj3
      rw [hbad]
      refine own_go (T' := T5) (f' := (mkF m 105 #[.val (.ref a0), .val (.ref a1), .val (.int p2), .val (.int p3), .val (.ref b3), .val (.int (own_bad f k 16)), .val (.int ii), s7, s8] [(.ref b3)])) (fun t kt => ?_) ?_
      · show Steps p.tables e below (T5.setTop (mkF m 94 #[.val (.ref a0), .val (.ref a1), .val (.int p2), .val (.int p3), .val (.ref b3), .val (.int (own_bad f k 16)), .val (.int ii), s7, s8] [])) t
        refine XS.iload X5.here hx rfl (hb hby d2_94) rfl ?_
        show Steps p.tables e below (T5.setTop (mkF m 96 #[.val (.ref a0), .val (.ref a1), .val (.int p2), .val (.int p3), .val (.ref b3), .val (.int (own_bad f k 16)), .val (.int ii), s7, s8] [(.int (own_bad f k 16))])) t
        refine XS.ifYes X5.here hx rfl (pc0 := 96) (pc' := 103) rfl (hb hby d2_96) rfl ((if0 _ _).trans (flt (show ¬ ((own_bad f k 16) < (0 : Int32)) from hbd)).2.1) (by decide) (by decide) ?_
        show Steps p.tables e below (T5.setTop (mkF m 103 #[.val (.ref a0), .val (.ref a1), .val (.int p2), .val (.int p3), .val (.ref b3), .val (.int (own_bad f k 16)), .val (.int ii), s7, s8] [])) t
        refine XS.aload X5.here hx rfl (hb hby d2_103) rfl rfl ?_
        show Steps p.tables e below (T5.setTop (mkF m 105 #[.val (.ref a0), .val (.ref a1), .val (.int p2), .val (.int p3), .val (.ref b3), .val (.int (own_bad f k 16)), .val (.int ii), s7, s8] [(.ref b3)])) t
        exact kt
      exact own_retA X5 hP hx hlk e5 hret rfl rfl rfl (hb hby d2_105) (by decide) (by decide) ⟨(congrArg (fun z => some (Value.ref z)) y3), Nj4, Kj4, (by rw [← y3]; exact fj4_2.congr fun q hq => by rw [hg q hq])⟩
  exact J28 16 T3 _ h3 (fun _ => (0 : Int32)) (0 : Int32) 0 (0 : Int32) (.unset) (.unset) X3 N0 e3 ZE3 KKE3 F_a0_length Ar_a1 Ar_b3 (by decide) (by omega) rfl (fun q hq => absurd hq (by omega)) rfl One.u One.u
theorem d2_99 : decode prog_13_method_8_code 99 = .ok (.aconst_null, 1) := by decide +kernel
theorem d2_100 : decode prog_13_method_8_code 100 = .ok (.goto 5, 3) := by decide +kernel
set_option maxRecDepth 65536 in
set_option maxHeartbeats 4000000 in
theorem ef_2w (m : MethodId) (a0 : Addr) (a1 : Addr) (p2 : Int32) (p3 : Int32)  : entryFrame m #[(.ref a0), (.ref a1), (.int p2), (.int p3)] 9 = mkF m 0 #[.val (.ref a0), .val (.ref a1), .val (.int p2), .val (.int p3), .unset, .unset, .unset, .unset, .unset] [] := by first | (simp [entryFrame, mkF, argsToLocals, Value.category]; done) | rfl
set_option maxRecDepth 65536 in
set_option maxHeartbeats 40000000 in
theorem rm2w (l : Launch) (Z : State) (aw : Array Value) (hw : ∀ d ∈ tables_1, d.before aw Z = true) {ws : List Jvm.Cond} (a0 : Addr) (a1 : Addr) (p2 : Int32) (p3 : Int32) (f : Nat → Int32) (k : Nat) (hxa : Addr) (h0 : Heap) (n0 : Nat) (Z0 : n0 ≤ h0.size) (F_a0_length : Fld Z h0 a0 "com/example/longhold/longhold/bagit/ChecksumAlgorithm" "length" "I" (.int (16 : Int32))) (Ar_a1 : own_AB Z h0 a1 36 f) (SX : Sta Z h0 "com/example/longhold/longhold/bagit/ChecksumAlgorithm" "HEX_DIGITS" "[B" (.ref hxa)) (HX : own_AB Z h0 hxa 128 own_hf) (hk : p2.toInt = (k : Int)) (hk3 : k ≤ 3) (h3 : (p3 - p2) = ((2 : Int32) * (16 : Int32))) (hbyt : ∀ j, j < 36 → own_byte (f j)) (hbd : own_bad f k 16 < (0 : Int32)) :
    own_Met l Z (⟨"com/example/longhold/longhold/bagit/ChecksumAlgorithm", "parse", "([BII)[B"⟩ : MethodName) prog_13_method_8_code 9 (some (.array .byte)) ws ({ frames := 1, cells := 1, slots := 16, locals := 12 } : Room) #[(.ref a0), (.ref a1), (.int p2), (.int p3)] h0 (fun v h L => v = (some .null) ∧ Fr n0 L ∧ Keep h0 h []) := by
  refine own_body (plainFor_of_name pn_4) ?_
  intro p e s m below meth c s₁ hx hZ hby hml hown hnm hret hlk X0 e0
  replace hown : s.vm.findClass "com/example/longhold/longhold/bagit/ChecksumAlgorithm" = some m.cls := hown
  replace hml : c.maxLocals = 9 := hml
  have N0 := Fr.nil n0
  have K0 := Keep.refl h0 []
  obtain ⟨P, hP⟩ : ∃ P, P = own_P below s (fun v h L => v = (some .null) ∧ Fr n0 L ∧ Keep h0 h []) ({ frames := 1, cells := 1, slots := 16, locals := 12 } : Room).cells ({ frames := 1, cells := 1, slots := 16, locals := 12 } : Room).slots := ⟨_, rfl⟩
  rw [← hP]
  refine own_cast (ef_2w m a0 a1 p2 p3) ?_
  refine own_go (T' := s₁) (f' := (mkF m 5 #[.val (.ref a0), .val (.ref a1), .val (.int p2), .val (.int p3), .unset, .unset, .unset, .unset, .unset] [(.ref a0), (.int (2 : Int32)), (.int (p3 - p2))])) (fun t kt => ?_) ?_
  · show Steps p.tables e below (s₁.setTop (mkF m 0 #[.val (.ref a0), .val (.ref a1), .val (.int p2), .val (.int p3), .unset, .unset, .unset, .unset, .unset] [])) t
    refine XS.iloadN X0.here hx rfl (hb hby d2_0) rfl ?_
    show Steps p.tables e below (s₁.setTop (mkF m 1 #[.val (.ref a0), .val (.ref a1), .val (.int p2), .val (.int p3), .unset, .unset, .unset, .unset, .unset] [(.int p3)])) t
    refine XS.iloadN X0.here hx rfl (hb hby d2_1) rfl ?_
    show Steps p.tables e below (s₁.setTop (mkF m 2 #[.val (.ref a0), .val (.ref a1), .val (.int p2), .val (.int p3), .unset, .unset, .unset, .unset, .unset] [(.int p2), (.int p3)])) t
    refine XS.isub X0.here hx rfl (hb hby d2_2) rfl ?_
    show Steps p.tables e below (s₁.setTop (mkF m 3 #[.val (.ref a0), .val (.ref a1), .val (.int p2), .val (.int p3), .unset, .unset, .unset, .unset, .unset] [(.int (p3 - p2))])) t
    refine XS.iconst X0.here hx rfl (hb hby d2_3) ?_
    show Steps p.tables e below (s₁.setTop (mkF m 4 #[.val (.ref a0), .val (.ref a1), .val (.int p2), .val (.int p3), .unset, .unset, .unset, .unset, .unset] [(.int (2 : Int32)), (.int (p3 - p2))])) t
    refine XS.aloadN X0.here hx rfl (hb hby d2_4) rfl rfl ?_
    show Steps p.tables e below (s₁.setTop (mkF m 5 #[.val (.ref a0), .val (.ref a1), .val (.int p2), .val (.int p3), .unset, .unset, .unset, .unset, .unset] [(.ref a0), (.int (2 : Int32)), (.int (p3 - p2))])) t
    exact kt
  obtain ⟨T1, X1, e1, st1⟩ := getF X0 hx hZ hown (host := "") (Or.inl (hw _ (List.mem_of_getElem? (i := 13) rfl))) Via.refl e0 F_a0_length (g := (mkF m 5 #[.val (.ref a0), .val (.ref a1), .val (.int p2), .val (.int p3), .unset, .unset, .unset, .unset, .unset] [(.ref a0), (.int (2 : Int32)), (.int (p3 - p2))])) rfl rfl (hb hby d2_5)
  refine own_go st1 ?_
  refine own_go (T' := T1) (f' := (mkF m 15 #[.val (.ref a0), .val (.ref a1), .val (.int p2), .val (.int p3), .unset, .unset, .unset, .unset, .unset] [(.ref a0)])) (fun t kt => ?_) ?_
  · show Steps p.tables e below (T1.setTop (mkF m 8 #[.val (.ref a0), .val (.ref a1), .val (.int p2), .val (.int p3), .unset, .unset, .unset, .unset, .unset] [(.int (16 : Int32)), (.int (2 : Int32)), (.int (p3 - p2))])) t
    refine XS.imul X1.here hx rfl (hb hby d2_8) rfl ?_
    show Steps p.tables e below (T1.setTop (mkF m 9 #[.val (.ref a0), .val (.ref a1), .val (.int p2), .val (.int p3), .unset, .unset, .unset, .unset, .unset] [(.int ((2 : Int32) * (16 : Int32))), (.int (p3 - p2))])) t
    refine XS.icmpYes X1.here hx rfl (pc0 := 9) (pc' := 14) rfl (hb hby d2_9) rfl (teq (show (p3 - p2) = ((2 : Int32) * (16 : Int32)) from h3)).1 (by decide) (by decide) ?_
    show Steps p.tables e below (T1.setTop (mkF m 14 #[.val (.ref a0), .val (.ref a1), .val (.int p2), .val (.int p3), .unset, .unset, .unset, .unset, .unset] [])) t
    refine XS.aloadN X1.here hx rfl (hb hby d2_14) rfl rfl ?_
    show Steps p.tables e below (T1.setTop (mkF m 15 #[.val (.ref a0), .val (.ref a1), .val (.int p2), .val (.int p3), .unset, .unset, .unset, .unset, .unset] [(.ref a0)])) t
    exact kt
  obtain ⟨T2, X2, e2, st2⟩ := getF X1 hx hZ hown (host := "") (Or.inl (hw _ (List.mem_of_getElem? (i := 13) rfl))) Via.refl e1 F_a0_length (g := (mkF m 15 #[.val (.ref a0), .val (.ref a1), .val (.int p2), .val (.int p3), .unset, .unset, .unset, .unset, .unset] [(.ref a0)])) rfl rfl (hb hby d2_15)
  refine own_go st2 ?_
  obtain ⟨T3, h3, k3, X3, e3, E3, A3, st3⟩ := newP X2 hx hZ (hw _ (List.mem_of_getElem? (i := 0) rfl)) e2 (g := (mkF m 18 #[.val (.ref a0), .val (.ref a1), .val (.int p2), .val (.int p3), .unset, .unset, .unset, .unset, .unset] [(.int (16 : Int32))])) rfl (hb hby d2_18) rfl (by decide) (cap := 16) (by decide) (by decide) (by decide) (by decide)
  obtain ⟨b3, y3⟩ : ∃ z, z = h0.size := ⟨_, rfl⟩
  rw [← y3] at A3 st3
  have ne_a0_b3 : a0 ≠ b3 := Nat.ne_of_lt (Nat.lt_of_lt_of_le F_a0_length.lt (Nat.le_of_eq y3.symm))
  have ne_b3_a0 := ne_a0_b3.symm
  have ne_a1_b3 : a1 ≠ b3 := Nat.ne_of_lt (Nat.lt_of_lt_of_le Ar_a1.lt (Nat.le_of_eq y3.symm))
  have ne_b3_a1 := ne_a1_b3.symm
  have g_b3 : n0 ≤ b3 := Nat.le_trans Z0 (Nat.le_of_eq y3.symm)
  have sz_b3 : h0.size ≤ b3 := Nat.le_trans K0.1 (Nat.le_of_eq y3.symm)
  replace F_a0_length := (F_a0_length.ext E3)
  replace Ar_a1 := (Ar_a1.ext E3)
  have ZE3 : n0 ≤ h3.size := Nat.le_trans Z0 E3.1
  have KKE3 := K0.ext E3
  refine own_go st3 ?_
  have Ar_b3 : own_AB Z h3 b3 16 (fun _ => (0 : Int32)) := own_A_new A3 (by decide)
  refine own_go (T' := T3) (f' := (mkF m 28 #[.val (.ref a0), .val (.ref a1), .val (.int p2), .val (.int p3), .val (.ref b3), .val (.int (0 : Int32)), .val (.int (0 : Int32)), .unset, .unset] [])) (fun t kt => ?_) ?_
  · show Steps p.tables e below (T3.setTop (mkF m 20 #[.val (.ref a0), .val (.ref a1), .val (.int p2), .val (.int p3), .unset, .unset, .unset, .unset, .unset] [(.ref b3)])) t
    refine XS.astore X3.here hx rfl (hb hby d2_20) rfl rfl (l' := #[.val (.ref a0), .val (.ref a1), .val (.int p2), .val (.int p3), .val (.ref b3), .unset, .unset, .unset, .unset]) rfl ?_
    show Steps p.tables e below (T3.setTop (mkF m 22 #[.val (.ref a0), .val (.ref a1), .val (.int p2), .val (.int p3), .val (.ref b3), .unset, .unset, .unset, .unset] [])) t
    refine XS.iconst X3.here hx rfl (hb hby d2_22) ?_
    show Steps p.tables e below (T3.setTop (mkF m 23 #[.val (.ref a0), .val (.ref a1), .val (.int p2), .val (.int p3), .val (.ref b3), .unset, .unset, .unset, .unset] [(.int (0 : Int32))])) t
    refine XS.istore X3.here hx rfl (hb hby d2_23) rfl (l' := #[.val (.ref a0), .val (.ref a1), .val (.int p2), .val (.int p3), .val (.ref b3), .val (.int (0 : Int32)), .unset, .unset, .unset]) rfl ?_
    show Steps p.tables e below (T3.setTop (mkF m 25 #[.val (.ref a0), .val (.ref a1), .val (.int p2), .val (.int p3), .val (.ref b3), .val (.int (0 : Int32)), .unset, .unset, .unset] [])) t
    refine XS.iconst X3.here hx rfl (hb hby d2_25) ?_
    show Steps p.tables e below (T3.setTop (mkF m 26 #[.val (.ref a0), .val (.ref a1), .val (.int p2), .val (.int p3), .val (.ref b3), .val (.int (0 : Int32)), .unset, .unset, .unset] [(.int (0 : Int32))])) t
    refine XS.istore X3.here hx rfl (hb hby d2_26) rfl (l' := #[.val (.ref a0), .val (.ref a1), .val (.int p2), .val (.int p3), .val (.ref b3), .val (.int (0 : Int32)), .val (.int (0 : Int32)), .unset, .unset]) rfl ?_
    show Steps p.tables e below (T3.setTop (mkF m 28 #[.val (.ref a0), .val (.ref a1), .val (.int p2), .val (.int p3), .val (.ref b3), .val (.int (0 : Int32)), .val (.int (0 : Int32)), .unset, .unset] [])) t
    exact kt
  have J28 : ∀ (kk : Nat) (Tj4 : State) (lj4 : List Loc) (hj4 : Heap) (g : Nat → Int32) (ii : Int32) (j : Nat) (bad : Int32) (s7 : Slot) (s8 : Slot) (Xj4 : Stand p l e ({ frames := 1, cells := 1, slots := 16, locals := 12 } : Room) s m #[(.ref a0), (.ref a1), (.int p2), (.int p3)] below meth c Tj4 lj4 1 16) (Nj4 : Fr n0 lj4) (ej4 : Tj4.heap = hj4) (Zj4 : n0 ≤ hj4.size) (Kj4 : Keep h0 hj4 []) (fj4_0 : Fld Z hj4 a0 "com/example/longhold/longhold/bagit/ChecksumAlgorithm" "length" "I" (.int (16 : Int32))) (fj4_1 : own_AB Z hj4 a1 36 f) (fj4_2 : own_AB Z hj4 b3 16 g) (hj : ii.toInt = (j : Int)) (hj16 : j ≤ 16) (hbad : bad = own_bad f k j) (hg : ∀ q, q < j → g q = own_pv f k q) (hkk : kk = 16 - j) (hs7 : One s7) (hs8 : One s8), own_End p e below P Tj4 (mkF m 28 #[.val (.ref a0), .val (.ref a1), .val (.int p2), .val (.int p3), .val (.ref b3), .val (.int bad), .val (.int ii), s7, s8] []) := by
    intro kk
    induction kk using Nat.strongRecOn with
    | _ kk IHJ28 =>
    intro Tj4 lj4 hj4 g ii j bad s7 s8 Xj4 Nj4 ej4 Zj4 Kj4 fj4_0 fj4_1 fj4_2 hj hj16 hbad hg hkk hs7 hs8
    refine own_go (T' := Tj4) (f' := (mkF m 31 #[.val (.ref a0), .val (.ref a1), .val (.int p2), .val (.int p3), .val (.ref b3), .val (.int bad), .val (.int ii), s7, s8] [(.ref a0), (.int ii)])) (fun t kt => ?_) ?_
    · show Steps p.tables e below (Tj4.setTop (mkF m 28 #[.val (.ref a0), .val (.ref a1), .val (.int p2), .val (.int p3), .val (.ref b3), .val (.int bad), .val (.int ii), s7, s8] [])) t
      refine XS.iload Xj4.here hx rfl (hb hby d2_28) rfl ?_
      show Steps p.tables e below (Tj4.setTop (mkF m 30 #[.val (.ref a0), .val (.ref a1), .val (.int p2), .val (.int p3), .val (.ref b3), .val (.int bad), .val (.int ii), s7, s8] [(.int ii)])) t
      refine XS.aloadN Xj4.here hx rfl (hb hby d2_30) rfl rfl ?_
      show Steps p.tables e below (Tj4.setTop (mkF m 31 #[.val (.ref a0), .val (.ref a1), .val (.int p2), .val (.int p3), .val (.ref b3), .val (.int bad), .val (.int ii), s7, s8] [(.ref a0), (.int ii)])) t
      exact kt
    obtain ⟨T5, X5, e5, st5⟩ := getF Xj4 hx hZ hown (host := "") (Or.inl (hw _ (List.mem_of_getElem? (i := 13) rfl))) Via.refl ej4 fj4_0 (g := (mkF m 31 #[.val (.ref a0), .val (.ref a1), .val (.int p2), .val (.int p3), .val (.ref b3), .val (.int bad), .val (.int ii), s7, s8] [(.ref a0), (.int ii)])) rfl rfl (hb hby d2_31)
    refine own_go st5 ?_
    by_cases hc34_6 : ii < (16 : Int32)
    · refine own_go (T' := T5) (f' := (mkF m 37 #[.val (.ref a0), .val (.ref a1), .val (.int p2), .val (.int p3), .val (.ref b3), .val (.int bad), .val (.int ii), s7, s8] [])) (fun t kt => ?_) ?_
      · show Steps p.tables e below (T5.setTop (mkF m 34 #[.val (.ref a0), .val (.ref a1), .val (.int p2), .val (.int p3), .val (.ref b3), .val (.int bad), .val (.int ii), s7, s8] [(.int (16 : Int32)), (.int ii)])) t
        refine XS.icmpNo X5.here hx rfl (hb hby d2_34) rfl (tlt hc34_6).2.1 ?_
        show Steps p.tables e below (T5.setTop (mkF m 37 #[.val (.ref a0), .val (.ref a1), .val (.int p2), .val (.int p3), .val (.ref b3), .val (.int bad), .val (.int ii), s7, s8] [])) t
        exact kt
      have hj2 := own_lt16 hj hc34_6
      refine own_go (T' := T5) (f' := (mkF m 45 #[.val (.ref a0), .val (.ref a1), .val (.int p2), .val (.int p3), .val (.ref b3), .val (.int bad), .val (.int ii), s7, s8] [(.int (f (k + 2 * j)))])) (fun t kt => ?_) ?_
      · show Steps p.tables e below (T5.setTop (mkF m 37 #[.val (.ref a0), .val (.ref a1), .val (.int p2), .val (.int p3), .val (.ref b3), .val (.int bad), .val (.int ii), s7, s8] [])) t
        refine XS.aloadN X5.here hx rfl (hb hby d2_37) rfl rfl ?_
        show Steps p.tables e below (T5.setTop (mkF m 38 #[.val (.ref a0), .val (.ref a1), .val (.int p2), .val (.int p3), .val (.ref b3), .val (.int bad), .val (.int ii), s7, s8] [(.ref a1)])) t
        refine XS.iloadN X5.here hx rfl (hb hby d2_38) rfl ?_
        show Steps p.tables e below (T5.setTop (mkF m 39 #[.val (.ref a0), .val (.ref a1), .val (.int p2), .val (.int p3), .val (.ref b3), .val (.int bad), .val (.int ii), s7, s8] [(.int p2), (.ref a1)])) t
        refine XS.iconst X5.here hx rfl (hb hby d2_39) ?_
        show Steps p.tables e below (T5.setTop (mkF m 40 #[.val (.ref a0), .val (.ref a1), .val (.int p2), .val (.int p3), .val (.ref b3), .val (.int bad), .val (.int ii), s7, s8] [(.int (2 : Int32)), (.int p2), (.ref a1)])) t
        refine XS.iload X5.here hx rfl (hb hby d2_40) rfl ?_
        show Steps p.tables e below (T5.setTop (mkF m 42 #[.val (.ref a0), .val (.ref a1), .val (.int p2), .val (.int p3), .val (.ref b3), .val (.int bad), .val (.int ii), s7, s8] [(.int ii), (.int (2 : Int32)), (.int p2), (.ref a1)])) t
        refine XS.imul X5.here hx rfl (hb hby d2_42) rfl ?_
        show Steps p.tables e below (T5.setTop (mkF m 43 #[.val (.ref a0), .val (.ref a1), .val (.int p2), .val (.int p3), .val (.ref b3), .val (.int bad), .val (.int ii), s7, s8] [(.int ((2 : Int32) * ii)), (.int p2), (.ref a1)])) t
        refine XS.iadd X5.here hx rfl (hb hby d2_43) rfl ?_
        show Steps p.tables e below (T5.setTop (mkF m 44 #[.val (.ref a0), .val (.ref a1), .val (.int p2), .val (.int p3), .val (.ref b3), .val (.int bad), .val (.int ii), s7, s8] [(.int (p2 + ((2 : Int32) * ii))), (.ref a1)])) t
        refine own_baload X5 hx hZ e5 fj4_1 (i := (k + 2 * j)) (own_ixl hk hk3 hj (by omega)) (by omega) (g := (mkF m 44 #[.val (.ref a0), .val (.ref a1), .val (.int p2), .val (.int p3), .val (.ref b3), .val (.int bad), .val (.int ii), s7, s8] [(.int (p2 + ((2 : Int32) * ii))), (.ref a1)])) rfl rfl (hb hby d2_44) _ ?_
        show Steps p.tables e below (T5.setTop (mkF m 45 #[.val (.ref a0), .val (.ref a1), .val (.int p2), .val (.int p3), .val (.ref b3), .val (.int bad), .val (.int ii), s7, s8] [(.int (f (k + 2 * j)))])) t
        exact kt
      refine own_callSp X5 hx hZ hown e5 (hw _ (List.mem_of_getElem? (i := 15) rfl)) (hw _ (List.mem_of_getElem? (i := 16) rfl)) (hw _ (List.mem_of_getElem? (i := 6) rfl)) (hw _ (List.mem_of_getElem? (i := 17) rfl)) (by decide) (rm3 l Z aw hw (f (k + 2 * j)) hxa hj4 n0 Zj4 (own_sta_keep SX Kj4) (HX.keep Kj4 (by simp)) (hbyt _ (by omega))) (g := (mkF m 45 #[.val (.ref a0), .val (.ref a1), .val (.int p2), .val (.int p3), .val (.ref b3), .val (.int bad), .val (.int ii), s7, s8] [(.int (f (k + 2 * j)))])) rfl (by rw [hml]; rfl) (argsL := [(.int (f (k + 2 * j)))]) (rest := []) (lenOf pd_5 rfl) rfl rfl (W := 0) (by show 2 * 0 + _ ≤ _; exact Nat.le_of_eq rfl) (hb hby d2_45) (by decide) (by decide) (by decide) (by decide) ?_
      intro T7 X7 e7
      refine own_go (T' := T7) (f' := (mkF m 60 #[.val (.ref a0), .val (.ref a1), .val (.int p2), .val (.int p3), .val (.ref b3), .val (.int bad), .val (.int ii), .val (.int (own_hx (f (k + 2 * j)))), s8] [(.int (f (k + 2 * j + 1)))])) (fun t kt => ?_) ?_
      · show Steps p.tables e below (T7.setTop (mkF m 48 #[.val (.ref a0), .val (.ref a1), .val (.int p2), .val (.int p3), .val (.ref b3), .val (.int bad), .val (.int ii), s7, s8] [(.int (own_hx (f (k + 2 * j))))])) t
        refine XS.istoreS X7.here hx rfl (hb hby d2_48) rfl rfl hs7 ?_
        show Steps p.tables e below (T7.setTop (mkF m 50 #[.val (.ref a0), .val (.ref a1), .val (.int p2), .val (.int p3), .val (.ref b3), .val (.int bad), .val (.int ii), .val (.int (own_hx (f (k + 2 * j)))), s8] [])) t
        refine XS.aloadN X7.here hx rfl (hb hby d2_50) rfl rfl ?_
        show Steps p.tables e below (T7.setTop (mkF m 51 #[.val (.ref a0), .val (.ref a1), .val (.int p2), .val (.int p3), .val (.ref b3), .val (.int bad), .val (.int ii), .val (.int (own_hx (f (k + 2 * j)))), s8] [(.ref a1)])) t
        refine XS.iloadN X7.here hx rfl (hb hby d2_51) rfl ?_
        show Steps p.tables e below (T7.setTop (mkF m 52 #[.val (.ref a0), .val (.ref a1), .val (.int p2), .val (.int p3), .val (.ref b3), .val (.int bad), .val (.int ii), .val (.int (own_hx (f (k + 2 * j)))), s8] [(.int p2), (.ref a1)])) t
        refine XS.iconst X7.here hx rfl (hb hby d2_52) ?_
        show Steps p.tables e below (T7.setTop (mkF m 53 #[.val (.ref a0), .val (.ref a1), .val (.int p2), .val (.int p3), .val (.ref b3), .val (.int bad), .val (.int ii), .val (.int (own_hx (f (k + 2 * j)))), s8] [(.int (2 : Int32)), (.int p2), (.ref a1)])) t
        refine XS.iload X7.here hx rfl (hb hby d2_53) rfl ?_
        show Steps p.tables e below (T7.setTop (mkF m 55 #[.val (.ref a0), .val (.ref a1), .val (.int p2), .val (.int p3), .val (.ref b3), .val (.int bad), .val (.int ii), .val (.int (own_hx (f (k + 2 * j)))), s8] [(.int ii), (.int (2 : Int32)), (.int p2), (.ref a1)])) t
        refine XS.imul X7.here hx rfl (hb hby d2_55) rfl ?_
        show Steps p.tables e below (T7.setTop (mkF m 56 #[.val (.ref a0), .val (.ref a1), .val (.int p2), .val (.int p3), .val (.ref b3), .val (.int bad), .val (.int ii), .val (.int (own_hx (f (k + 2 * j)))), s8] [(.int ((2 : Int32) * ii)), (.int p2), (.ref a1)])) t
        refine XS.iadd X7.here hx rfl (hb hby d2_56) rfl ?_
        show Steps p.tables e below (T7.setTop (mkF m 57 #[.val (.ref a0), .val (.ref a1), .val (.int p2), .val (.int p3), .val (.ref b3), .val (.int bad), .val (.int ii), .val (.int (own_hx (f (k + 2 * j)))), s8] [(.int (p2 + ((2 : Int32) * ii))), (.ref a1)])) t
        refine XS.iconst X7.here hx rfl (hb hby d2_57) ?_
        show Steps p.tables e below (T7.setTop (mkF m 58 #[.val (.ref a0), .val (.ref a1), .val (.int p2), .val (.int p3), .val (.ref b3), .val (.int bad), .val (.int ii), .val (.int (own_hx (f (k + 2 * j)))), s8] [(.int (1 : Int32)), (.int (p2 + ((2 : Int32) * ii))), (.ref a1)])) t
        refine XS.iadd X7.here hx rfl (hb hby d2_58) rfl ?_
        show Steps p.tables e below (T7.setTop (mkF m 59 #[.val (.ref a0), .val (.ref a1), .val (.int p2), .val (.int p3), .val (.ref b3), .val (.int bad), .val (.int ii), .val (.int (own_hx (f (k + 2 * j)))), s8] [(.int ((p2 + ((2 : Int32) * ii)) + (1 : Int32))), (.ref a1)])) t
        refine own_baload X7 hx hZ e7 fj4_1 (i := (k + 2 * j + 1)) (own_ixl1 hk hk3 hj (by omega)) (by omega) (g := (mkF m 59 #[.val (.ref a0), .val (.ref a1), .val (.int p2), .val (.int p3), .val (.ref b3), .val (.int bad), .val (.int ii), .val (.int (own_hx (f (k + 2 * j)))), s8] [(.int ((p2 + ((2 : Int32) * ii)) + (1 : Int32))), (.ref a1)])) rfl rfl (hb hby d2_59) _ ?_
        show Steps p.tables e below (T7.setTop (mkF m 60 #[.val (.ref a0), .val (.ref a1), .val (.int p2), .val (.int p3), .val (.ref b3), .val (.int bad), .val (.int ii), .val (.int (own_hx (f (k + 2 * j)))), s8] [(.int (f (k + 2 * j + 1)))])) t
        exact kt
      refine own_callSp X7 hx hZ hown e7 (hw _ (List.mem_of_getElem? (i := 15) rfl)) (hw _ (List.mem_of_getElem? (i := 16) rfl)) (hw _ (List.mem_of_getElem? (i := 6) rfl)) (hw _ (List.mem_of_getElem? (i := 17) rfl)) (by decide) (rm3 l Z aw hw (f (k + 2 * j + 1)) hxa hj4 n0 Zj4 (own_sta_keep SX Kj4) (HX.keep Kj4 (by simp)) (hbyt _ (by omega))) (g := (mkF m 60 #[.val (.ref a0), .val (.ref a1), .val (.int p2), .val (.int p3), .val (.ref b3), .val (.int bad), .val (.int ii), .val (.int (own_hx (f (k + 2 * j)))), s8] [(.int (f (k + 2 * j + 1)))])) rfl (by rw [hml]; rfl) (argsL := [(.int (f (k + 2 * j + 1)))]) (rest := []) (lenOf pd_5 rfl) rfl rfl (W := 0) (by show 2 * 0 + _ ≤ _; exact Nat.le_of_eq rfl) (hb hby d2_60) (by decide) (by decide) (by decide) (by decide) ?_
      intro T8 X8 e8
      refine own_go (T' := T8) (f' := (mkF m 87 #[.val (.ref a0), .val (.ref a1), .val (.int p2), .val (.int p3), .val (.ref b3), .val (.int (bad ||| ((own_hx (f (k + 2 * j))) ||| (own_hx (f (k + 2 * j + 1)))))), .val (.int ii), .val (.int (own_hx (f (k + 2 * j)))), .val (.int (own_hx (f (k + 2 * j + 1))))] [(.int ((((own_hx (f (k + 2 * j))) <<< ((4 : Int32) &&& 31)) ||| (own_hx (f (k + 2 * j + 1)))).toInt8.toInt32)), (.int ii), (.ref b3)])) (fun t kt => ?_) ?_
      · show Steps p.tables e below (T8.setTop (mkF m 63 #[.val (.ref a0), .val (.ref a1), .val (.int p2), .val (.int p3), .val (.ref b3), .val (.int bad), .val (.int ii), .val (.int (own_hx (f (k + 2 * j)))), s8] [(.int (own_hx (f (k + 2 * j + 1))))])) t
        refine XS.istoreS X8.here hx rfl (hb hby d2_63) rfl rfl hs8 ?_
        show Steps p.tables e below (T8.setTop (mkF m 65 #[.val (.ref a0), .val (.ref a1), .val (.int p2), .val (.int p3), .val (.ref b3), .val (.int bad), .val (.int ii), .val (.int (own_hx (f (k + 2 * j)))), .val (.int (own_hx (f (k + 2 * j + 1))))] [])) t
        refine XS.iload X8.here hx rfl (hb hby d2_65) rfl ?_
        show Steps p.tables e below (T8.setTop (mkF m 67 #[.val (.ref a0), .val (.ref a1), .val (.int p2), .val (.int p3), .val (.ref b3), .val (.int bad), .val (.int ii), .val (.int (own_hx (f (k + 2 * j)))), .val (.int (own_hx (f (k + 2 * j + 1))))] [(.int bad)])) t
        refine XS.iload X8.here hx rfl (hb hby d2_67) rfl ?_
        show Steps p.tables e below (T8.setTop (mkF m 69 #[.val (.ref a0), .val (.ref a1), .val (.int p2), .val (.int p3), .val (.ref b3), .val (.int bad), .val (.int ii), .val (.int (own_hx (f (k + 2 * j)))), .val (.int (own_hx (f (k + 2 * j + 1))))] [(.int (own_hx (f (k + 2 * j)))), (.int bad)])) t
        refine XS.iload X8.here hx rfl (hb hby d2_69) rfl ?_
        show Steps p.tables e below (T8.setTop (mkF m 71 #[.val (.ref a0), .val (.ref a1), .val (.int p2), .val (.int p3), .val (.ref b3), .val (.int bad), .val (.int ii), .val (.int (own_hx (f (k + 2 * j)))), .val (.int (own_hx (f (k + 2 * j + 1))))] [(.int (own_hx (f (k + 2 * j + 1)))), (.int (own_hx (f (k + 2 * j)))), (.int bad)])) t
        refine XS.ior X8.here hx rfl (hb hby d2_71) rfl ?_
        show Steps p.tables e below (T8.setTop (mkF m 72 #[.val (.ref a0), .val (.ref a1), .val (.int p2), .val (.int p3), .val (.ref b3), .val (.int bad), .val (.int ii), .val (.int (own_hx (f (k + 2 * j)))), .val (.int (own_hx (f (k + 2 * j + 1))))] [(.int ((own_hx (f (k + 2 * j))) ||| (own_hx (f (k + 2 * j + 1))))), (.int bad)])) t
        refine XS.ior X8.here hx rfl (hb hby d2_72) rfl ?_
        show Steps p.tables e below (T8.setTop (mkF m 73 #[.val (.ref a0), .val (.ref a1), .val (.int p2), .val (.int p3), .val (.ref b3), .val (.int bad), .val (.int ii), .val (.int (own_hx (f (k + 2 * j)))), .val (.int (own_hx (f (k + 2 * j + 1))))] [(.int (bad ||| ((own_hx (f (k + 2 * j))) ||| (own_hx (f (k + 2 * j + 1))))))])) t
        refine XS.istore X8.here hx rfl (hb hby d2_73) rfl (l' := #[.val (.ref a0), .val (.ref a1), .val (.int p2), .val (.int p3), .val (.ref b3), .val (.int (bad ||| ((own_hx (f (k + 2 * j))) ||| (own_hx (f (k + 2 * j + 1)))))), .val (.int ii), .val (.int (own_hx (f (k + 2 * j)))), .val (.int (own_hx (f (k + 2 * j + 1))))]) rfl ?_
        show Steps p.tables e below (T8.setTop (mkF m 75 #[.val (.ref a0), .val (.ref a1), .val (.int p2), .val (.int p3), .val (.ref b3), .val (.int (bad ||| ((own_hx (f (k + 2 * j))) ||| (own_hx (f (k + 2 * j + 1)))))), .val (.int ii), .val (.int (own_hx (f (k + 2 * j)))), .val (.int (own_hx (f (k + 2 * j + 1))))] [])) t
        refine XS.aload X8.here hx rfl (hb hby d2_75) rfl rfl ?_
        show Steps p.tables e below (T8.setTop (mkF m 77 #[.val (.ref a0), .val (.ref a1), .val (.int p2), .val (.int p3), .val (.ref b3), .val (.int (bad ||| ((own_hx (f (k + 2 * j))) ||| (own_hx (f (k + 2 * j + 1)))))), .val (.int ii), .val (.int (own_hx (f (k + 2 * j)))), .val (.int (own_hx (f (k + 2 * j + 1))))] [(.ref b3)])) t
        refine XS.iload X8.here hx rfl (hb hby d2_77) rfl ?_
        show Steps p.tables e below (T8.setTop (mkF m 79 #[.val (.ref a0), .val (.ref a1), .val (.int p2), .val (.int p3), .val (.ref b3), .val (.int (bad ||| ((own_hx (f (k + 2 * j))) ||| (own_hx (f (k + 2 * j + 1)))))), .val (.int ii), .val (.int (own_hx (f (k + 2 * j)))), .val (.int (own_hx (f (k + 2 * j + 1))))] [(.int ii), (.ref b3)])) t
        refine XS.iload X8.here hx rfl (hb hby d2_79) rfl ?_
        show Steps p.tables e below (T8.setTop (mkF m 81 #[.val (.ref a0), .val (.ref a1), .val (.int p2), .val (.int p3), .val (.ref b3), .val (.int (bad ||| ((own_hx (f (k + 2 * j))) ||| (own_hx (f (k + 2 * j + 1)))))), .val (.int ii), .val (.int (own_hx (f (k + 2 * j)))), .val (.int (own_hx (f (k + 2 * j + 1))))] [(.int (own_hx (f (k + 2 * j)))), (.int ii), (.ref b3)])) t
        refine XS.iconst X8.here hx rfl (hb hby d2_81) ?_
        show Steps p.tables e below (T8.setTop (mkF m 82 #[.val (.ref a0), .val (.ref a1), .val (.int p2), .val (.int p3), .val (.ref b3), .val (.int (bad ||| ((own_hx (f (k + 2 * j))) ||| (own_hx (f (k + 2 * j + 1)))))), .val (.int ii), .val (.int (own_hx (f (k + 2 * j)))), .val (.int (own_hx (f (k + 2 * j + 1))))] [(.int (4 : Int32)), (.int (own_hx (f (k + 2 * j)))), (.int ii), (.ref b3)])) t
        refine XS.ishl X8.here hx rfl (hb hby d2_82) rfl ?_
        show Steps p.tables e below (T8.setTop (mkF m 83 #[.val (.ref a0), .val (.ref a1), .val (.int p2), .val (.int p3), .val (.ref b3), .val (.int (bad ||| ((own_hx (f (k + 2 * j))) ||| (own_hx (f (k + 2 * j + 1)))))), .val (.int ii), .val (.int (own_hx (f (k + 2 * j)))), .val (.int (own_hx (f (k + 2 * j + 1))))] [(.int ((own_hx (f (k + 2 * j))) <<< ((4 : Int32) &&& 31))), (.int ii), (.ref b3)])) t
        refine XS.iload X8.here hx rfl (hb hby d2_83) rfl ?_
        show Steps p.tables e below (T8.setTop (mkF m 85 #[.val (.ref a0), .val (.ref a1), .val (.int p2), .val (.int p3), .val (.ref b3), .val (.int (bad ||| ((own_hx (f (k + 2 * j))) ||| (own_hx (f (k + 2 * j + 1)))))), .val (.int ii), .val (.int (own_hx (f (k + 2 * j)))), .val (.int (own_hx (f (k + 2 * j + 1))))] [(.int (own_hx (f (k + 2 * j + 1)))), (.int ((own_hx (f (k + 2 * j))) <<< ((4 : Int32) &&& 31))), (.int ii), (.ref b3)])) t
        refine XS.ior X8.here hx rfl (hb hby d2_85) rfl ?_
        show Steps p.tables e below (T8.setTop (mkF m 86 #[.val (.ref a0), .val (.ref a1), .val (.int p2), .val (.int p3), .val (.ref b3), .val (.int (bad ||| ((own_hx (f (k + 2 * j))) ||| (own_hx (f (k + 2 * j + 1)))))), .val (.int ii), .val (.int (own_hx (f (k + 2 * j)))), .val (.int (own_hx (f (k + 2 * j + 1))))] [(.int (((own_hx (f (k + 2 * j))) <<< ((4 : Int32) &&& 31)) ||| (own_hx (f (k + 2 * j + 1))))), (.int ii), (.ref b3)])) t
        refine XS.i2b X8.here hx rfl (hb hby d2_86) rfl ?_
        show Steps p.tables e below (T8.setTop (mkF m 87 #[.val (.ref a0), .val (.ref a1), .val (.int p2), .val (.int p3), .val (.ref b3), .val (.int (bad ||| ((own_hx (f (k + 2 * j))) ||| (own_hx (f (k + 2 * j + 1)))))), .val (.int ii), .val (.int (own_hx (f (k + 2 * j)))), .val (.int (own_hx (f (k + 2 * j + 1))))] [(.int ((((own_hx (f (k + 2 * j))) <<< ((4 : Int32) &&& 31)) ||| (own_hx (f (k + 2 * j + 1)))).toInt8.toInt32)), (.int ii), (.ref b3)])) t
        exact kt
      obtain ⟨T9, h9, X9, e9, W9, B9, st9⟩ := own_bastore X8 hx hZ e8 fj4_2 (i := j) hj (by omega) (g := (mkF m 87 #[.val (.ref a0), .val (.ref a1), .val (.int p2), .val (.int p3), .val (.ref b3), .val (.int (bad ||| ((own_hx (f (k + 2 * j))) ||| (own_hx (f (k + 2 * j + 1)))))), .val (.int ii), .val (.int (own_hx (f (k + 2 * j)))), .val (.int (own_hx (f (k + 2 * j + 1))))] [(.int ((((own_hx (f (k + 2 * j))) <<< ((4 : Int32) &&& 31)) ||| (own_hx (f (k + 2 * j + 1)))).toInt8.toInt32)), (.int ii), (.ref b3)])) rfl rfl (hb hby d2_87)
      refine own_go st9 ?_
      replace fj4_0 := (fj4_0.other W9 (Or.inl (ne_a0_b3)))
      replace fj4_1 := (fj4_1.other W9 (ne_a1_b3))
      have N9 := Fr.snoc X9 Nj4 g_b3
      have Z9 : n0 ≤ h9.size := Nat.le_trans Zj4 (Keep.of_wr W9).1
      have KK9 := Kj4.wr W9 (Or.inr sz_b3)
      refine own_go (T' := T9) (f' := (mkF m 28 #[.val (.ref a0), .val (.ref a1), .val (.int p2), .val (.int p3), .val (.ref b3), .val (.int (bad ||| ((own_hx (f (k + 2 * j))) ||| (own_hx (f (k + 2 * j + 1)))))), .val (.int (ii + (1 : Int32))), .val (.int (own_hx (f (k + 2 * j)))), .val (.int (own_hx (f (k + 2 * j + 1))))] [])) (fun t kt => ?_) ?_
      · show Steps p.tables e below (T9.setTop (mkF m 88 #[.val (.ref a0), .val (.ref a1), .val (.int p2), .val (.int p3), .val (.ref b3), .val (.int (bad ||| ((own_hx (f (k + 2 * j))) ||| (own_hx (f (k + 2 * j + 1)))))), .val (.int ii), .val (.int (own_hx (f (k + 2 * j)))), .val (.int (own_hx (f (k + 2 * j + 1))))] [])) t
        refine XS.iinc X9.here hx rfl (hb hby d2_88) rfl (l' := #[.val (.ref a0), .val (.ref a1), .val (.int p2), .val (.int p3), .val (.ref b3), .val (.int (bad ||| ((own_hx (f (k + 2 * j))) ||| (own_hx (f (k + 2 * j + 1)))))), .val (.int (ii + (1 : Int32))), .val (.int (own_hx (f (k + 2 * j)))), .val (.int (own_hx (f (k + 2 * j + 1))))]) rfl ?_
        show Steps p.tables e below (T9.setTop (mkF m 91 #[.val (.ref a0), .val (.ref a1), .val (.int p2), .val (.int p3), .val (.ref b3), .val (.int (bad ||| ((own_hx (f (k + 2 * j))) ||| (own_hx (f (k + 2 * j + 1)))))), .val (.int (ii + (1 : Int32))), .val (.int (own_hx (f (k + 2 * j)))), .val (.int (own_hx (f (k + 2 * j + 1))))] [])) t
        refine XS.goto X9.here hx rfl (pc0 := 91) (pc' := 28) rfl (hb hby d2_91) (by decide) (by decide) ?_
        show Steps p.tables e below (T9.setTop (mkF m 28 #[.val (.ref a0), .val (.ref a1), .val (.int p2), .val (.int p3), .val (.ref b3), .val (.int (bad ||| ((own_hx (f (k + 2 * j))) ||| (own_hx (f (k + 2 * j + 1)))))), .val (.int (ii + (1 : Int32))), .val (.int (own_hx (f (k + 2 * j)))), .val (.int (own_hx (f (k + 2 * j + 1))))] [])) t
        exact kt
      exact IHJ28 (16 - (j + 1)) (by omega) T9 _ h9 (own_set g j (((((own_hx (f (k + 2 * j))) <<< ((4 : Int32) &&& 31)) ||| (own_hx (f (k + 2 * j + 1)))).toInt8.toInt32).toInt8.toInt32)) (ii + (1 : Int32)) (j + 1) (bad ||| ((own_hx (f (k + 2 * j))) ||| (own_hx (f (k + 2 * j + 1))))) (.val (.int (own_hx (f (k + 2 * j))))) (.val (.int (own_hx (f (k + 2 * j + 1))))) X9 N9 e9 Z9 KK9 fj4_0 fj4_1 B9 (own_inc1 hj hj2) (by omega) (by rw [hbad]; rfl) (own_pvs hg) rfl (One.val rfl) (One.val rfl)
    · refine own_go (T' := T5) (f' := (mkF m 94 #[.val (.ref a0), .val (.ref a1), .val (.int p2), .val (.int p3), .val (.ref b3), .val (.int bad), .val (.int ii), s7, s8] [])) (fun t kt => ?_) ?_
      · show Steps p.tables e below (T5.setTop (mkF m 34 #[.val (.ref a0), .val (.ref a1), .val (.int p2), .val (.int p3), .val (.ref b3), .val (.int bad), .val (.int ii), s7, s8] [(.int (16 : Int32)), (.int ii)])) t
        refine XS.icmpYes X5.here hx rfl (pc0 := 34) (pc' := 94) rfl (hb hby d2_34) rfl (flt hc34_6).2.1 (by decide) (by decide) ?_
        show Steps p.tables e below (T5.setTop (mkF m 94 #[.val (.ref a0), .val (.ref a1), .val (.int p2), .val (.int p3), .val (.ref b3), .val (.int bad), .val (.int ii), s7, s8] [])) t
        exact kt
      have hj3 := own_eq16 hj hc34_6 hj16
      subst hj3
      rw [hbad]
      refine own_go (T' := T5) (f' := (mkF m 105 #[.val (.ref a0), .val (.ref a1), .val (.int p2), .val (.int p3), .val (.ref b3), .val (.int (own_bad f k 16)), .val (.int ii), s7, s8] [.null])) (fun t kt => ?_) ?_
      · show Steps p.tables e below (T5.setTop (mkF m 94 #[.val (.ref a0), .val (.ref a1), .val (.int p2), .val (.int p3), .val (.ref b3), .val (.int (own_bad f k 16)), .val (.int ii), s7, s8] [])) t
        refine XS.iload X5.here hx rfl (hb hby d2_94) rfl ?_
        show Steps p.tables e below (T5.setTop (mkF m 96 #[.val (.ref a0), .val (.ref a1), .val (.int p2), .val (.int p3), .val (.ref b3), .val (.int (own_bad f k 16)), .val (.int ii), s7, s8] [(.int (own_bad f k 16))])) t
        refine XS.ifNo X5.here hx rfl (hb hby d2_96) rfl ((if0 _ _).trans (tlt (show (own_bad f k 16) < (0 : Int32) from hbd)).2.1) ?_
        show Steps p.tables e below (T5.setTop (mkF m 99 #[.val (.ref a0), .val (.ref a1), .val (.int p2), .val (.int p3), .val (.ref b3), .val (.int (own_bad f k 16)), .val (.int ii), s7, s8] [])) t
        refine XS.aconstNull X5.here hx rfl (hb hby d2_99) ?_
        show Steps p.tables e below (T5.setTop (mkF m 100 #[.val (.ref a0), .val (.ref a1), .val (.int p2), .val (.int p3), .val (.ref b3), .val (.int (own_bad f k 16)), .val (.int ii), s7, s8] [.null])) t
        refine XS.goto X5.here hx rfl (pc0 := 100) (pc' := 105) rfl (hb hby d2_100) (by decide) (by decide) ?_
        show Steps p.tables e below (T5.setTop (mkF m 105 #[.val (.ref a0), .val (.ref a1), .val (.int p2), .val (.int p3), .val (.ref b3), .val (.int (own_bad f k 16)), .val (.int ii), s7, s8] [.null])) t
        exact kt
      exact own_retA X5 hP hx hlk e5 hret rfl rfl rfl (hb hby d2_105) (by decide) (by decide) ⟨rfl, Nj4, Kj4⟩
  exact J28 16 T3 _ h3 (fun _ => (0 : Int32)) (0 : Int32) 0 (0 : Int32) (.unset) (.unset) X3 N0 e3 ZE3 KKE3 F_a0_length Ar_a1 Ar_b3 (by decide) (by omega) rfl (fun q hq => absurd hq (by omega)) rfl One.u One.u
theorem pd_6 : parseMethodDescriptor "(IZ)B" = some ⟨[.int, .boolean], some .byte⟩ := by decide +kernel
theorem pd_7 : parseMethodDescriptor "([BII)[B" = some ⟨[(.array .byte), .int, .int], some (.array .byte)⟩ := by decide +kernel
set_option maxRecDepth 65536 in
set_option maxHeartbeats 4000000 in
theorem ef_0 (m : MethodId) (p0 : Int32) (p1 : Int32) (p2 : Int32) (p3 : Int32) (p4 : Int32) (p5 : Int32)  : entryFrame m #[(.int p0), (.int p1), (.int p2), (.int p3), (.int p4), (.int p5)] maxLocals = mkF m 0 #[.val (.int p0), .val (.int p1), .val (.int p2), .val (.int p3), .val (.int p4), .val (.int p5), .unset, .unset, .unset, .unset, .unset, .unset, .unset, .unset, .unset, .unset, .unset, .unset, .unset, .unset, .unset, .unset, .unset] [] := by first | (simp [entryFrame, mkF, argsToLocals, Value.category, maxLocals]; done) | rfl
set_option maxRecDepth 65536 in
set_option maxHeartbeats 40000000 in
theorem rm0 (l : Launch) (Z : State) (aw : Array Value) (hw : ∀ d ∈ tables_1, d.before aw Z = true) {ws : List Jvm.Cond} (p0 : Int32) (p1 : Int32) (p2 : Int32) (p3 : Int32) (p4 : Int32) (p5 : Int32) (vb : Value) (zc : Int32) (hxa : Addr) (xa : Addr) (xb : Addr) (xc : Addr) (xd : Addr) (xe : Addr) (xf : Addr) (h0 : Heap) (n0 : Nat) (Z0 : n0 ≤ h0.size) (SI : Sta Z h0 "jdk/internal/util/Preconditions" "SIOOBE_FORMATTER" "Ljava/util/function/BiFunction;" vb) (hcat : vb.category = 1) (SC : Sta Z h0 "java/lang/String" "COMPACT_STRINGS" "Z" (.int zc)) (hzc : ¬ zc = (0 : Int32)) (SX : Sta Z h0 "com/example/longhold/longhold/bagit/ChecksumAlgorithm" "HEX_DIGITS" "[B" (.ref hxa)) (HX : own_AB Z h0 hxa 128 own_hf) (S_xa : Sta Z h0 "com/example/longhold/longhold/bagit/ChecksumAlgorithm" "MD5" "Lcom/example/longhold/longhold/bagit/ChecksumAlgorithm;" (.ref xa)) (E_xa : Exa Z h0 xa "com/example/longhold/longhold/bagit/ChecksumAlgorithm") (F_xa : Fld Z h0 xa "com/example/longhold/longhold/bagit/ChecksumAlgorithm" "length" "I" (.int (16 : Int32))) (S_xb : Sta Z h0 "com/example/longhold/longhold/bagit/ChecksumAlgorithm" "SHA512" "Lcom/example/longhold/longhold/bagit/ChecksumAlgorithm;" (.ref xb)) (E_xb : Exa Z h0 xb "com/example/longhold/longhold/bagit/ChecksumAlgorithm") (F_xb : Fld Z h0 xb "com/example/longhold/longhold/bagit/ChecksumAlgorithm" "length" "I" (.int (64 : Int32))) (S_xc : Sta Z h0 "com/example/longhold/longhold/bagit/ChecksumAlgorithm" "SHA384" "Lcom/example/longhold/longhold/bagit/ChecksumAlgorithm;" (.ref xc)) (E_xc : Exa Z h0 xc "com/example/longhold/longhold/bagit/ChecksumAlgorithm") (F_xc : Fld Z h0 xc "com/example/longhold/longhold/bagit/ChecksumAlgorithm" "length" "I" (.int (48 : Int32))) (S_xd : Sta Z h0 "com/example/longhold/longhold/bagit/ChecksumAlgorithm" "SHA256" "Lcom/example/longhold/longhold/bagit/ChecksumAlgorithm;" (.ref xd)) (E_xd : Exa Z h0 xd "com/example/longhold/longhold/bagit/ChecksumAlgorithm") (F_xd : Fld Z h0 xd "com/example/longhold/longhold/bagit/ChecksumAlgorithm" "length" "I" (.int (32 : Int32))) (S_xe : Sta Z h0 "com/example/longhold/longhold/bagit/ChecksumAlgorithm" "SHA224" "Lcom/example/longhold/longhold/bagit/ChecksumAlgorithm;" (.ref xe)) (E_xe : Exa Z h0 xe "com/example/longhold/longhold/bagit/ChecksumAlgorithm") (F_xe : Fld Z h0 xe "com/example/longhold/longhold/bagit/ChecksumAlgorithm" "length" "I" (.int (28 : Int32))) (S_xf : Sta Z h0 "com/example/longhold/longhold/bagit/ChecksumAlgorithm" "SHA1" "Lcom/example/longhold/longhold/bagit/ChecksumAlgorithm;" (.ref xf)) (E_xf : Exa Z h0 xf "com/example/longhold/longhold/bagit/ChecksumAlgorithm") (F_xf : Fld Z h0 xf "com/example/longhold/longhold/bagit/ChecksumAlgorithm" "length" "I" (.int (20 : Int32))) :
    own_MetWHE own_EL l Z x code maxLocals ret ws room_1 #[(.int p0), (.int p1), (.int p2), (.int p3), (.int p4), (.int p5)] h0 (fun v h L => v = some (.int 1) ∧ Fr n0 L) := by
  refine own_bodyWHE (plainFor_of_name pn_3) ?_
  intro p e s m below meth c s₁ hx hZ hby hml hown hnm hret hlk X0 e0 hS H0
  replace hown : (s.setVm s.vm).vm.findClass "com/example/longhold/longhold/bagit/ChecksumAlgorithmParsePinLaw" = some m.cls := hown
  replace hml : c.maxLocals = 23 := hml
  have N0 := Fr.nil n0
  have K0 := Keep.refl h0 []
  obtain ⟨P, hP⟩ : ∃ P, P = own_PW below s (fun v h L => v = some (.int 1) ∧ Fr n0 L) room_1.cells room_1.slots := ⟨_, rfl⟩
  rw [← hP]
  refine own_cast (ef_0 m p0 p1 p2 p3 p4 p5) ?_
  refine own_go (T' := s₁) (f' := (mkF m 3 #[.val (.int p0), .val (.int p1), .val (.int p2), .val (.int p3), .val (.int p4), .val (.int p5), .unset, .unset, .unset, .unset, .unset, .unset, .unset, .unset, .unset, .unset, .unset, .unset, .unset, .unset, .unset, .unset, .unset] [(.int (p0 &&& (3 : Int32)))])) (fun t kt => ?_) ?_
  · show Steps p.tables e below (s₁.setTop (mkF m 0 #[.val (.int p0), .val (.int p1), .val (.int p2), .val (.int p3), .val (.int p4), .val (.int p5), .unset, .unset, .unset, .unset, .unset, .unset, .unset, .unset, .unset, .unset, .unset, .unset, .unset, .unset, .unset, .unset, .unset] [])) t
    refine XS.iloadN X0.here hx rfl (hb hby at_0) rfl ?_
    show Steps p.tables e below (s₁.setTop (mkF m 1 #[.val (.int p0), .val (.int p1), .val (.int p2), .val (.int p3), .val (.int p4), .val (.int p5), .unset, .unset, .unset, .unset, .unset, .unset, .unset, .unset, .unset, .unset, .unset, .unset, .unset, .unset, .unset, .unset, .unset] [(.int p0)])) t
    refine XS.iconst X0.here hx rfl (hb hby at_1) ?_
    show Steps p.tables e below (s₁.setTop (mkF m 2 #[.val (.int p0), .val (.int p1), .val (.int p2), .val (.int p3), .val (.int p4), .val (.int p5), .unset, .unset, .unset, .unset, .unset, .unset, .unset, .unset, .unset, .unset, .unset, .unset, .unset, .unset, .unset, .unset, .unset] [(.int (3 : Int32)), (.int p0)])) t
    refine XS.iand X0.here hx rfl (hb hby at_2) rfl ?_
    show Steps p.tables e below (s₁.setTop (mkF m 3 #[.val (.int p0), .val (.int p1), .val (.int p2), .val (.int p3), .val (.int p4), .val (.int p5), .unset, .unset, .unset, .unset, .unset, .unset, .unset, .unset, .unset, .unset, .unset, .unset, .unset, .unset, .unset, .unset, .unset] [(.int (p0 &&& (3 : Int32)))])) t
    exact kt
  obtain ⟨fr, hfr⟩ : ∃ z, z = (p0 &&& (3 : Int32)) := ⟨_, rfl⟩
  rw [← hfr]
  refine own_go (T' := s₁) (f' := (mkF m 10 #[.val (.int p0), .val (.int p1), .val (.int p2), .val (.int p3), .val (.int p4), .val (.int p5), .val (.int fr), .unset, .unset, .unset, .unset, .unset, .unset, .unset, .unset, .unset, .unset, .unset, .unset, .unset, .unset, .unset, .unset] [(.int (((p0.toUInt32 >>> ((2 : Int32) &&& 31).toUInt32).toInt32) &&& (1 : Int32)))])) (fun t kt => ?_) ?_
  · show Steps p.tables e below (s₁.setTop (mkF m 3 #[.val (.int p0), .val (.int p1), .val (.int p2), .val (.int p3), .val (.int p4), .val (.int p5), .unset, .unset, .unset, .unset, .unset, .unset, .unset, .unset, .unset, .unset, .unset, .unset, .unset, .unset, .unset, .unset, .unset] [(.int fr)])) t
    refine XS.istore X0.here hx rfl (hb hby at_3) rfl (l' := #[.val (.int p0), .val (.int p1), .val (.int p2), .val (.int p3), .val (.int p4), .val (.int p5), .val (.int fr), .unset, .unset, .unset, .unset, .unset, .unset, .unset, .unset, .unset, .unset, .unset, .unset, .unset, .unset, .unset, .unset]) rfl ?_
    show Steps p.tables e below (s₁.setTop (mkF m 5 #[.val (.int p0), .val (.int p1), .val (.int p2), .val (.int p3), .val (.int p4), .val (.int p5), .val (.int fr), .unset, .unset, .unset, .unset, .unset, .unset, .unset, .unset, .unset, .unset, .unset, .unset, .unset, .unset, .unset, .unset] [])) t
    refine XS.iloadN X0.here hx rfl (hb hby at_5) rfl ?_
    show Steps p.tables e below (s₁.setTop (mkF m 6 #[.val (.int p0), .val (.int p1), .val (.int p2), .val (.int p3), .val (.int p4), .val (.int p5), .val (.int fr), .unset, .unset, .unset, .unset, .unset, .unset, .unset, .unset, .unset, .unset, .unset, .unset, .unset, .unset, .unset, .unset] [(.int p0)])) t
    refine XS.iconst X0.here hx rfl (hb hby at_6) ?_
    show Steps p.tables e below (s₁.setTop (mkF m 7 #[.val (.int p0), .val (.int p1), .val (.int p2), .val (.int p3), .val (.int p4), .val (.int p5), .val (.int fr), .unset, .unset, .unset, .unset, .unset, .unset, .unset, .unset, .unset, .unset, .unset, .unset, .unset, .unset, .unset, .unset] [(.int (2 : Int32)), (.int p0)])) t
    refine XS.iushr X0.here hx rfl (hb hby at_7) rfl ?_
    show Steps p.tables e below (s₁.setTop (mkF m 8 #[.val (.int p0), .val (.int p1), .val (.int p2), .val (.int p3), .val (.int p4), .val (.int p5), .val (.int fr), .unset, .unset, .unset, .unset, .unset, .unset, .unset, .unset, .unset, .unset, .unset, .unset, .unset, .unset, .unset, .unset] [(.int ((p0.toUInt32 >>> ((2 : Int32) &&& 31).toUInt32).toInt32))])) t
    refine XS.iconst X0.here hx rfl (hb hby at_8) ?_
    show Steps p.tables e below (s₁.setTop (mkF m 9 #[.val (.int p0), .val (.int p1), .val (.int p2), .val (.int p3), .val (.int p4), .val (.int p5), .val (.int fr), .unset, .unset, .unset, .unset, .unset, .unset, .unset, .unset, .unset, .unset, .unset, .unset, .unset, .unset, .unset, .unset] [(.int (1 : Int32)), (.int ((p0.toUInt32 >>> ((2 : Int32) &&& 31).toUInt32).toInt32))])) t
    refine XS.iand X0.here hx rfl (hb hby at_9) rfl ?_
    show Steps p.tables e below (s₁.setTop (mkF m 10 #[.val (.int p0), .val (.int p1), .val (.int p2), .val (.int p3), .val (.int p4), .val (.int p5), .val (.int fr), .unset, .unset, .unset, .unset, .unset, .unset, .unset, .unset, .unset, .unset, .unset, .unset, .unset, .unset, .unset, .unset] [(.int (((p0.toUInt32 >>> ((2 : Int32) &&& 31).toUInt32).toInt32) &&& (1 : Int32)))])) t
    exact kt
  refine own_go (T' := s₁) (f' := (mkF m 18 #[.val (.int p0), .val (.int p1), .val (.int p2), .val (.int p3), .val (.int p4), .val (.int p5), .val (.int fr), .unset, .unset, .unset, .unset, .unset, .unset, .unset, .unset, .unset, .unset, .unset, .unset, .unset, .unset, .unset, .unset] [(.int (own_z (¬ ((((p0.toUInt32 >>> ((2 : Int32) &&& 31).toUInt32).toInt32) &&& (1 : Int32)) = (0 : Int32)))))])) (fun t kt => ?_) ?_
  · by_cases hc10_1 : (((p0.toUInt32 >>> ((2 : Int32) &&& 31).toUInt32).toInt32) &&& (1 : Int32)) = (0 : Int32)
    · show Steps p.tables e below (s₁.setTop (mkF m 10 #[.val (.int p0), .val (.int p1), .val (.int p2), .val (.int p3), .val (.int p4), .val (.int p5), .val (.int fr), .unset, .unset, .unset, .unset, .unset, .unset, .unset, .unset, .unset, .unset, .unset, .unset, .unset, .unset, .unset, .unset] [(.int (((p0.toUInt32 >>> ((2 : Int32) &&& 31).toUInt32).toInt32) &&& (1 : Int32)))])) t
      refine XS.ifYes X0.here hx rfl (pc0 := 10) (pc' := 17) rfl (hb hby at_10) rfl ((if0 _ _).trans (teq hc10_1).1) (by decide) (by decide) ?_
      show Steps p.tables e below (s₁.setTop (mkF m 17 #[.val (.int p0), .val (.int p1), .val (.int p2), .val (.int p3), .val (.int p4), .val (.int p5), .val (.int fr), .unset, .unset, .unset, .unset, .unset, .unset, .unset, .unset, .unset, .unset, .unset, .unset, .unset, .unset, .unset, .unset] [])) t
      refine XS.iconst X0.here hx rfl (hb hby at_17) ?_
      show Steps p.tables e below (s₁.setTop (mkF m 18 #[.val (.int p0), .val (.int p1), .val (.int p2), .val (.int p3), .val (.int p4), .val (.int p5), .val (.int fr), .unset, .unset, .unset, .unset, .unset, .unset, .unset, .unset, .unset, .unset, .unset, .unset, .unset, .unset, .unset, .unset] [(.int (0 : Int32))])) t
      rw [own_z_f (P := ¬ ((((p0.toUInt32 >>> ((2 : Int32) &&& 31).toUInt32).toInt32) &&& (1 : Int32)) = (0 : Int32))) (fun n => n hc10_1)] at kt
      exact kt
    · show Steps p.tables e below (s₁.setTop (mkF m 10 #[.val (.int p0), .val (.int p1), .val (.int p2), .val (.int p3), .val (.int p4), .val (.int p5), .val (.int fr), .unset, .unset, .unset, .unset, .unset, .unset, .unset, .unset, .unset, .unset, .unset, .unset, .unset, .unset, .unset, .unset] [(.int (((p0.toUInt32 >>> ((2 : Int32) &&& 31).toUInt32).toInt32) &&& (1 : Int32)))])) t
      refine XS.ifNo X0.here hx rfl (hb hby at_10) rfl ((if0 _ _).trans (feq hc10_1).1) ?_
      show Steps p.tables e below (s₁.setTop (mkF m 13 #[.val (.int p0), .val (.int p1), .val (.int p2), .val (.int p3), .val (.int p4), .val (.int p5), .val (.int fr), .unset, .unset, .unset, .unset, .unset, .unset, .unset, .unset, .unset, .unset, .unset, .unset, .unset, .unset, .unset, .unset] [])) t
      refine XS.iconst X0.here hx rfl (hb hby at_13) ?_
      show Steps p.tables e below (s₁.setTop (mkF m 14 #[.val (.int p0), .val (.int p1), .val (.int p2), .val (.int p3), .val (.int p4), .val (.int p5), .val (.int fr), .unset, .unset, .unset, .unset, .unset, .unset, .unset, .unset, .unset, .unset, .unset, .unset, .unset, .unset, .unset, .unset] [(.int (1 : Int32))])) t
      refine XS.goto X0.here hx rfl (pc0 := 14) (pc' := 18) rfl (hb hby at_14) (by decide) (by decide) ?_
      show Steps p.tables e below (s₁.setTop (mkF m 18 #[.val (.int p0), .val (.int p1), .val (.int p2), .val (.int p3), .val (.int p4), .val (.int p5), .val (.int fr), .unset, .unset, .unset, .unset, .unset, .unset, .unset, .unset, .unset, .unset, .unset, .unset, .unset, .unset, .unset, .unset] [(.int (1 : Int32))])) t
      rw [own_z_t (P := ¬ ((((p0.toUInt32 >>> ((2 : Int32) &&& 31).toUInt32).toInt32) &&& (1 : Int32)) = (0 : Int32))) hc10_1] at kt
      exact kt
  obtain ⟨wt, hwt⟩ : ∃ z, z = (own_z (¬ ((((p0.toUInt32 >>> ((2 : Int32) &&& 31).toUInt32).toInt32) &&& (1 : Int32)) = (0 : Int32)))) := ⟨_, rfl⟩
  rw [← hwt]
  refine own_go (T' := s₁) (f' := (mkF m 25 #[.val (.int p0), .val (.int p1), .val (.int p2), .val (.int p3), .val (.int p4), .val (.int p5), .val (.int fr), .val (.int wt), .unset, .unset, .unset, .unset, .unset, .unset, .unset, .unset, .unset, .unset, .unset, .unset, .unset, .unset, .unset] [(.int (((p0.toUInt32 >>> ((3 : Int32) &&& 31).toUInt32).toInt32) &&& (1 : Int32)))])) (fun t kt => ?_) ?_
  · show Steps p.tables e below (s₁.setTop (mkF m 18 #[.val (.int p0), .val (.int p1), .val (.int p2), .val (.int p3), .val (.int p4), .val (.int p5), .val (.int fr), .unset, .unset, .unset, .unset, .unset, .unset, .unset, .unset, .unset, .unset, .unset, .unset, .unset, .unset, .unset, .unset] [(.int wt)])) t
    refine XS.istore X0.here hx rfl (hb hby at_18) rfl (l' := #[.val (.int p0), .val (.int p1), .val (.int p2), .val (.int p3), .val (.int p4), .val (.int p5), .val (.int fr), .val (.int wt), .unset, .unset, .unset, .unset, .unset, .unset, .unset, .unset, .unset, .unset, .unset, .unset, .unset, .unset, .unset]) rfl ?_
    show Steps p.tables e below (s₁.setTop (mkF m 20 #[.val (.int p0), .val (.int p1), .val (.int p2), .val (.int p3), .val (.int p4), .val (.int p5), .val (.int fr), .val (.int wt), .unset, .unset, .unset, .unset, .unset, .unset, .unset, .unset, .unset, .unset, .unset, .unset, .unset, .unset, .unset] [])) t
    refine XS.iloadN X0.here hx rfl (hb hby at_20) rfl ?_
    show Steps p.tables e below (s₁.setTop (mkF m 21 #[.val (.int p0), .val (.int p1), .val (.int p2), .val (.int p3), .val (.int p4), .val (.int p5), .val (.int fr), .val (.int wt), .unset, .unset, .unset, .unset, .unset, .unset, .unset, .unset, .unset, .unset, .unset, .unset, .unset, .unset, .unset] [(.int p0)])) t
    refine XS.iconst X0.here hx rfl (hb hby at_21) ?_
    show Steps p.tables e below (s₁.setTop (mkF m 22 #[.val (.int p0), .val (.int p1), .val (.int p2), .val (.int p3), .val (.int p4), .val (.int p5), .val (.int fr), .val (.int wt), .unset, .unset, .unset, .unset, .unset, .unset, .unset, .unset, .unset, .unset, .unset, .unset, .unset, .unset, .unset] [(.int (3 : Int32)), (.int p0)])) t
    refine XS.iushr X0.here hx rfl (hb hby at_22) rfl ?_
    show Steps p.tables e below (s₁.setTop (mkF m 23 #[.val (.int p0), .val (.int p1), .val (.int p2), .val (.int p3), .val (.int p4), .val (.int p5), .val (.int fr), .val (.int wt), .unset, .unset, .unset, .unset, .unset, .unset, .unset, .unset, .unset, .unset, .unset, .unset, .unset, .unset, .unset] [(.int ((p0.toUInt32 >>> ((3 : Int32) &&& 31).toUInt32).toInt32))])) t
    refine XS.iconst X0.here hx rfl (hb hby at_23) ?_
    show Steps p.tables e below (s₁.setTop (mkF m 24 #[.val (.int p0), .val (.int p1), .val (.int p2), .val (.int p3), .val (.int p4), .val (.int p5), .val (.int fr), .val (.int wt), .unset, .unset, .unset, .unset, .unset, .unset, .unset, .unset, .unset, .unset, .unset, .unset, .unset, .unset, .unset] [(.int (1 : Int32)), (.int ((p0.toUInt32 >>> ((3 : Int32) &&& 31).toUInt32).toInt32))])) t
    refine XS.iand X0.here hx rfl (hb hby at_24) rfl ?_
    show Steps p.tables e below (s₁.setTop (mkF m 25 #[.val (.int p0), .val (.int p1), .val (.int p2), .val (.int p3), .val (.int p4), .val (.int p5), .val (.int fr), .val (.int wt), .unset, .unset, .unset, .unset, .unset, .unset, .unset, .unset, .unset, .unset, .unset, .unset, .unset, .unset, .unset] [(.int (((p0.toUInt32 >>> ((3 : Int32) &&& 31).toUInt32).toInt32) &&& (1 : Int32)))])) t
    exact kt
  refine own_go (T' := s₁) (f' := (mkF m 33 #[.val (.int p0), .val (.int p1), .val (.int p2), .val (.int p3), .val (.int p4), .val (.int p5), .val (.int fr), .val (.int wt), .unset, .unset, .unset, .unset, .unset, .unset, .unset, .unset, .unset, .unset, .unset, .unset, .unset, .unset, .unset] [(.int (own_z (¬ ((((p0.toUInt32 >>> ((3 : Int32) &&& 31).toUInt32).toInt32) &&& (1 : Int32)) = (0 : Int32)))))])) (fun t kt => ?_) ?_
  · by_cases hc25_2 : (((p0.toUInt32 >>> ((3 : Int32) &&& 31).toUInt32).toInt32) &&& (1 : Int32)) = (0 : Int32)
    · show Steps p.tables e below (s₁.setTop (mkF m 25 #[.val (.int p0), .val (.int p1), .val (.int p2), .val (.int p3), .val (.int p4), .val (.int p5), .val (.int fr), .val (.int wt), .unset, .unset, .unset, .unset, .unset, .unset, .unset, .unset, .unset, .unset, .unset, .unset, .unset, .unset, .unset] [(.int (((p0.toUInt32 >>> ((3 : Int32) &&& 31).toUInt32).toInt32) &&& (1 : Int32)))])) t
      refine XS.ifYes X0.here hx rfl (pc0 := 25) (pc' := 32) rfl (hb hby at_25) rfl ((if0 _ _).trans (teq hc25_2).1) (by decide) (by decide) ?_
      show Steps p.tables e below (s₁.setTop (mkF m 32 #[.val (.int p0), .val (.int p1), .val (.int p2), .val (.int p3), .val (.int p4), .val (.int p5), .val (.int fr), .val (.int wt), .unset, .unset, .unset, .unset, .unset, .unset, .unset, .unset, .unset, .unset, .unset, .unset, .unset, .unset, .unset] [])) t
      refine XS.iconst X0.here hx rfl (hb hby at_32) ?_
      show Steps p.tables e below (s₁.setTop (mkF m 33 #[.val (.int p0), .val (.int p1), .val (.int p2), .val (.int p3), .val (.int p4), .val (.int p5), .val (.int fr), .val (.int wt), .unset, .unset, .unset, .unset, .unset, .unset, .unset, .unset, .unset, .unset, .unset, .unset, .unset, .unset, .unset] [(.int (0 : Int32))])) t
      rw [own_z_f (P := ¬ ((((p0.toUInt32 >>> ((3 : Int32) &&& 31).toUInt32).toInt32) &&& (1 : Int32)) = (0 : Int32))) (fun n => n hc25_2)] at kt
      exact kt
    · show Steps p.tables e below (s₁.setTop (mkF m 25 #[.val (.int p0), .val (.int p1), .val (.int p2), .val (.int p3), .val (.int p4), .val (.int p5), .val (.int fr), .val (.int wt), .unset, .unset, .unset, .unset, .unset, .unset, .unset, .unset, .unset, .unset, .unset, .unset, .unset, .unset, .unset] [(.int (((p0.toUInt32 >>> ((3 : Int32) &&& 31).toUInt32).toInt32) &&& (1 : Int32)))])) t
      refine XS.ifNo X0.here hx rfl (hb hby at_25) rfl ((if0 _ _).trans (feq hc25_2).1) ?_
      show Steps p.tables e below (s₁.setTop (mkF m 28 #[.val (.int p0), .val (.int p1), .val (.int p2), .val (.int p3), .val (.int p4), .val (.int p5), .val (.int fr), .val (.int wt), .unset, .unset, .unset, .unset, .unset, .unset, .unset, .unset, .unset, .unset, .unset, .unset, .unset, .unset, .unset] [])) t
      refine XS.iconst X0.here hx rfl (hb hby at_28) ?_
      show Steps p.tables e below (s₁.setTop (mkF m 29 #[.val (.int p0), .val (.int p1), .val (.int p2), .val (.int p3), .val (.int p4), .val (.int p5), .val (.int fr), .val (.int wt), .unset, .unset, .unset, .unset, .unset, .unset, .unset, .unset, .unset, .unset, .unset, .unset, .unset, .unset, .unset] [(.int (1 : Int32))])) t
      refine XS.goto X0.here hx rfl (pc0 := 29) (pc' := 33) rfl (hb hby at_29) (by decide) (by decide) ?_
      show Steps p.tables e below (s₁.setTop (mkF m 33 #[.val (.int p0), .val (.int p1), .val (.int p2), .val (.int p3), .val (.int p4), .val (.int p5), .val (.int fr), .val (.int wt), .unset, .unset, .unset, .unset, .unset, .unset, .unset, .unset, .unset, .unset, .unset, .unset, .unset, .unset, .unset] [(.int (1 : Int32))])) t
      rw [own_z_t (P := ¬ ((((p0.toUInt32 >>> ((3 : Int32) &&& 31).toUInt32).toInt32) &&& (1 : Int32)) = (0 : Int32))) hc25_2] at kt
      exact kt
  obtain ⟨hd, hhd⟩ : ∃ z, z = (own_z (¬ ((((p0.toUInt32 >>> ((3 : Int32) &&& 31).toUInt32).toInt32) &&& (1 : Int32)) = (0 : Int32)))) := ⟨_, rfl⟩
  rw [← hhd]
  refine own_go (T' := s₁) (f' := (mkF m 40 #[.val (.int p0), .val (.int p1), .val (.int p2), .val (.int p3), .val (.int p4), .val (.int p5), .val (.int fr), .val (.int wt), .val (.int hd), .unset, .unset, .unset, .unset, .unset, .unset, .unset, .unset, .unset, .unset, .unset, .unset, .unset, .unset] [(.int (((p0.toUInt32 >>> ((4 : Int32) &&& 31).toUInt32).toInt32) &&& (1 : Int32)))])) (fun t kt => ?_) ?_
  · show Steps p.tables e below (s₁.setTop (mkF m 33 #[.val (.int p0), .val (.int p1), .val (.int p2), .val (.int p3), .val (.int p4), .val (.int p5), .val (.int fr), .val (.int wt), .unset, .unset, .unset, .unset, .unset, .unset, .unset, .unset, .unset, .unset, .unset, .unset, .unset, .unset, .unset] [(.int hd)])) t
    refine XS.istore X0.here hx rfl (hb hby at_33) rfl (l' := #[.val (.int p0), .val (.int p1), .val (.int p2), .val (.int p3), .val (.int p4), .val (.int p5), .val (.int fr), .val (.int wt), .val (.int hd), .unset, .unset, .unset, .unset, .unset, .unset, .unset, .unset, .unset, .unset, .unset, .unset, .unset, .unset]) rfl ?_
    show Steps p.tables e below (s₁.setTop (mkF m 35 #[.val (.int p0), .val (.int p1), .val (.int p2), .val (.int p3), .val (.int p4), .val (.int p5), .val (.int fr), .val (.int wt), .val (.int hd), .unset, .unset, .unset, .unset, .unset, .unset, .unset, .unset, .unset, .unset, .unset, .unset, .unset, .unset] [])) t
    refine XS.iloadN X0.here hx rfl (hb hby at_35) rfl ?_
    show Steps p.tables e below (s₁.setTop (mkF m 36 #[.val (.int p0), .val (.int p1), .val (.int p2), .val (.int p3), .val (.int p4), .val (.int p5), .val (.int fr), .val (.int wt), .val (.int hd), .unset, .unset, .unset, .unset, .unset, .unset, .unset, .unset, .unset, .unset, .unset, .unset, .unset, .unset] [(.int p0)])) t
    refine XS.iconst X0.here hx rfl (hb hby at_36) ?_
    show Steps p.tables e below (s₁.setTop (mkF m 37 #[.val (.int p0), .val (.int p1), .val (.int p2), .val (.int p3), .val (.int p4), .val (.int p5), .val (.int fr), .val (.int wt), .val (.int hd), .unset, .unset, .unset, .unset, .unset, .unset, .unset, .unset, .unset, .unset, .unset, .unset, .unset, .unset] [(.int (4 : Int32)), (.int p0)])) t
    refine XS.iushr X0.here hx rfl (hb hby at_37) rfl ?_
    show Steps p.tables e below (s₁.setTop (mkF m 38 #[.val (.int p0), .val (.int p1), .val (.int p2), .val (.int p3), .val (.int p4), .val (.int p5), .val (.int fr), .val (.int wt), .val (.int hd), .unset, .unset, .unset, .unset, .unset, .unset, .unset, .unset, .unset, .unset, .unset, .unset, .unset, .unset] [(.int ((p0.toUInt32 >>> ((4 : Int32) &&& 31).toUInt32).toInt32))])) t
    refine XS.iconst X0.here hx rfl (hb hby at_38) ?_
    show Steps p.tables e below (s₁.setTop (mkF m 39 #[.val (.int p0), .val (.int p1), .val (.int p2), .val (.int p3), .val (.int p4), .val (.int p5), .val (.int fr), .val (.int wt), .val (.int hd), .unset, .unset, .unset, .unset, .unset, .unset, .unset, .unset, .unset, .unset, .unset, .unset, .unset, .unset] [(.int (1 : Int32)), (.int ((p0.toUInt32 >>> ((4 : Int32) &&& 31).toUInt32).toInt32))])) t
    refine XS.iand X0.here hx rfl (hb hby at_39) rfl ?_
    show Steps p.tables e below (s₁.setTop (mkF m 40 #[.val (.int p0), .val (.int p1), .val (.int p2), .val (.int p3), .val (.int p4), .val (.int p5), .val (.int fr), .val (.int wt), .val (.int hd), .unset, .unset, .unset, .unset, .unset, .unset, .unset, .unset, .unset, .unset, .unset, .unset, .unset, .unset] [(.int (((p0.toUInt32 >>> ((4 : Int32) &&& 31).toUInt32).toInt32) &&& (1 : Int32)))])) t
    exact kt
  refine own_go (T' := s₁) (f' := (mkF m 48 #[.val (.int p0), .val (.int p1), .val (.int p2), .val (.int p3), .val (.int p4), .val (.int p5), .val (.int fr), .val (.int wt), .val (.int hd), .unset, .unset, .unset, .unset, .unset, .unset, .unset, .unset, .unset, .unset, .unset, .unset, .unset, .unset] [(.int (own_z (¬ ((((p0.toUInt32 >>> ((4 : Int32) &&& 31).toUInt32).toInt32) &&& (1 : Int32)) = (0 : Int32)))))])) (fun t kt => ?_) ?_
  · by_cases hc40_3 : (((p0.toUInt32 >>> ((4 : Int32) &&& 31).toUInt32).toInt32) &&& (1 : Int32)) = (0 : Int32)
    · show Steps p.tables e below (s₁.setTop (mkF m 40 #[.val (.int p0), .val (.int p1), .val (.int p2), .val (.int p3), .val (.int p4), .val (.int p5), .val (.int fr), .val (.int wt), .val (.int hd), .unset, .unset, .unset, .unset, .unset, .unset, .unset, .unset, .unset, .unset, .unset, .unset, .unset, .unset] [(.int (((p0.toUInt32 >>> ((4 : Int32) &&& 31).toUInt32).toInt32) &&& (1 : Int32)))])) t
      refine XS.ifYes X0.here hx rfl (pc0 := 40) (pc' := 47) rfl (hb hby at_40) rfl ((if0 _ _).trans (teq hc40_3).1) (by decide) (by decide) ?_
      show Steps p.tables e below (s₁.setTop (mkF m 47 #[.val (.int p0), .val (.int p1), .val (.int p2), .val (.int p3), .val (.int p4), .val (.int p5), .val (.int fr), .val (.int wt), .val (.int hd), .unset, .unset, .unset, .unset, .unset, .unset, .unset, .unset, .unset, .unset, .unset, .unset, .unset, .unset] [])) t
      refine XS.iconst X0.here hx rfl (hb hby at_47) ?_
      show Steps p.tables e below (s₁.setTop (mkF m 48 #[.val (.int p0), .val (.int p1), .val (.int p2), .val (.int p3), .val (.int p4), .val (.int p5), .val (.int fr), .val (.int wt), .val (.int hd), .unset, .unset, .unset, .unset, .unset, .unset, .unset, .unset, .unset, .unset, .unset, .unset, .unset, .unset] [(.int (0 : Int32))])) t
      rw [own_z_f (P := ¬ ((((p0.toUInt32 >>> ((4 : Int32) &&& 31).toUInt32).toInt32) &&& (1 : Int32)) = (0 : Int32))) (fun n => n hc40_3)] at kt
      exact kt
    · show Steps p.tables e below (s₁.setTop (mkF m 40 #[.val (.int p0), .val (.int p1), .val (.int p2), .val (.int p3), .val (.int p4), .val (.int p5), .val (.int fr), .val (.int wt), .val (.int hd), .unset, .unset, .unset, .unset, .unset, .unset, .unset, .unset, .unset, .unset, .unset, .unset, .unset, .unset] [(.int (((p0.toUInt32 >>> ((4 : Int32) &&& 31).toUInt32).toInt32) &&& (1 : Int32)))])) t
      refine XS.ifNo X0.here hx rfl (hb hby at_40) rfl ((if0 _ _).trans (feq hc40_3).1) ?_
      show Steps p.tables e below (s₁.setTop (mkF m 43 #[.val (.int p0), .val (.int p1), .val (.int p2), .val (.int p3), .val (.int p4), .val (.int p5), .val (.int fr), .val (.int wt), .val (.int hd), .unset, .unset, .unset, .unset, .unset, .unset, .unset, .unset, .unset, .unset, .unset, .unset, .unset, .unset] [])) t
      refine XS.iconst X0.here hx rfl (hb hby at_43) ?_
      show Steps p.tables e below (s₁.setTop (mkF m 44 #[.val (.int p0), .val (.int p1), .val (.int p2), .val (.int p3), .val (.int p4), .val (.int p5), .val (.int fr), .val (.int wt), .val (.int hd), .unset, .unset, .unset, .unset, .unset, .unset, .unset, .unset, .unset, .unset, .unset, .unset, .unset, .unset] [(.int (1 : Int32))])) t
      refine XS.goto X0.here hx rfl (pc0 := 44) (pc' := 48) rfl (hb hby at_44) (by decide) (by decide) ?_
      show Steps p.tables e below (s₁.setTop (mkF m 48 #[.val (.int p0), .val (.int p1), .val (.int p2), .val (.int p3), .val (.int p4), .val (.int p5), .val (.int fr), .val (.int wt), .val (.int hd), .unset, .unset, .unset, .unset, .unset, .unset, .unset, .unset, .unset, .unset, .unset, .unset, .unset, .unset] [(.int (1 : Int32))])) t
      rw [own_z_t (P := ¬ ((((p0.toUInt32 >>> ((4 : Int32) &&& 31).toUInt32).toInt32) &&& (1 : Int32)) = (0 : Int32))) hc40_3] at kt
      exact kt
  obtain ⟨ld, hld⟩ : ∃ z, z = (own_z (¬ ((((p0.toUInt32 >>> ((4 : Int32) &&& 31).toUInt32).toInt32) &&& (1 : Int32)) = (0 : Int32)))) := ⟨_, rfl⟩
  rw [← hld]
  refine own_go (T' := s₁) (f' := (mkF m 56 #[.val (.int p0), .val (.int p1), .val (.int p2), .val (.int p3), .val (.int p4), .val (.int p5), .val (.int fr), .val (.int wt), .val (.int hd), .val (.int ld), .unset, .unset, .unset, .unset, .unset, .unset, .unset, .unset, .unset, .unset, .unset, .unset, .unset] [(.int (((p0.toUInt32 >>> ((5 : Int32) &&& 31).toUInt32).toInt32) &&& (15 : Int32)))])) (fun t kt => ?_) ?_
  · show Steps p.tables e below (s₁.setTop (mkF m 48 #[.val (.int p0), .val (.int p1), .val (.int p2), .val (.int p3), .val (.int p4), .val (.int p5), .val (.int fr), .val (.int wt), .val (.int hd), .unset, .unset, .unset, .unset, .unset, .unset, .unset, .unset, .unset, .unset, .unset, .unset, .unset, .unset] [(.int ld)])) t
    refine XS.istore X0.here hx rfl (hb hby at_48) rfl (l' := #[.val (.int p0), .val (.int p1), .val (.int p2), .val (.int p3), .val (.int p4), .val (.int p5), .val (.int fr), .val (.int wt), .val (.int hd), .val (.int ld), .unset, .unset, .unset, .unset, .unset, .unset, .unset, .unset, .unset, .unset, .unset, .unset, .unset]) rfl ?_
    show Steps p.tables e below (s₁.setTop (mkF m 50 #[.val (.int p0), .val (.int p1), .val (.int p2), .val (.int p3), .val (.int p4), .val (.int p5), .val (.int fr), .val (.int wt), .val (.int hd), .val (.int ld), .unset, .unset, .unset, .unset, .unset, .unset, .unset, .unset, .unset, .unset, .unset, .unset, .unset] [])) t
    refine XS.iloadN X0.here hx rfl (hb hby at_50) rfl ?_
    show Steps p.tables e below (s₁.setTop (mkF m 51 #[.val (.int p0), .val (.int p1), .val (.int p2), .val (.int p3), .val (.int p4), .val (.int p5), .val (.int fr), .val (.int wt), .val (.int hd), .val (.int ld), .unset, .unset, .unset, .unset, .unset, .unset, .unset, .unset, .unset, .unset, .unset, .unset, .unset] [(.int p0)])) t
    refine XS.iconst X0.here hx rfl (hb hby at_51) ?_
    show Steps p.tables e below (s₁.setTop (mkF m 52 #[.val (.int p0), .val (.int p1), .val (.int p2), .val (.int p3), .val (.int p4), .val (.int p5), .val (.int fr), .val (.int wt), .val (.int hd), .val (.int ld), .unset, .unset, .unset, .unset, .unset, .unset, .unset, .unset, .unset, .unset, .unset, .unset, .unset] [(.int (5 : Int32)), (.int p0)])) t
    refine XS.iushr X0.here hx rfl (hb hby at_52) rfl ?_
    show Steps p.tables e below (s₁.setTop (mkF m 53 #[.val (.int p0), .val (.int p1), .val (.int p2), .val (.int p3), .val (.int p4), .val (.int p5), .val (.int fr), .val (.int wt), .val (.int hd), .val (.int ld), .unset, .unset, .unset, .unset, .unset, .unset, .unset, .unset, .unset, .unset, .unset, .unset, .unset] [(.int ((p0.toUInt32 >>> ((5 : Int32) &&& 31).toUInt32).toInt32))])) t
    refine XS.bipush X0.here hx rfl (hb hby at_53) ?_
    show Steps p.tables e below (s₁.setTop (mkF m 55 #[.val (.int p0), .val (.int p1), .val (.int p2), .val (.int p3), .val (.int p4), .val (.int p5), .val (.int fr), .val (.int wt), .val (.int hd), .val (.int ld), .unset, .unset, .unset, .unset, .unset, .unset, .unset, .unset, .unset, .unset, .unset, .unset, .unset] [(.int (15 : Int32)), (.int ((p0.toUInt32 >>> ((5 : Int32) &&& 31).toUInt32).toInt32))])) t
    refine XS.iand X0.here hx rfl (hb hby at_55) rfl ?_
    show Steps p.tables e below (s₁.setTop (mkF m 56 #[.val (.int p0), .val (.int p1), .val (.int p2), .val (.int p3), .val (.int p4), .val (.int p5), .val (.int fr), .val (.int wt), .val (.int hd), .val (.int ld), .unset, .unset, .unset, .unset, .unset, .unset, .unset, .unset, .unset, .unset, .unset, .unset, .unset] [(.int (((p0.toUInt32 >>> ((5 : Int32) &&& 31).toUInt32).toInt32) &&& (15 : Int32)))])) t
    exact kt
  obtain ⟨pp, hpp⟩ : ∃ z, z = (((p0.toUInt32 >>> ((5 : Int32) &&& 31).toUInt32).toInt32) &&& (15 : Int32)) := ⟨_, rfl⟩
  rw [← hpp]
  refine own_go (T' := s₁) (f' := (mkF m 65 #[.val (.int p0), .val (.int p1), .val (.int p2), .val (.int p3), .val (.int p4), .val (.int p5), .val (.int fr), .val (.int wt), .val (.int hd), .val (.int ld), .val (.int pp), .unset, .unset, .unset, .unset, .unset, .unset, .unset, .unset, .unset, .unset, .unset, .unset] [(.int (((p0.toUInt32 >>> ((9 : Int32) &&& 31).toUInt32).toInt32) &&& (15 : Int32)))])) (fun t kt => ?_) ?_
  · show Steps p.tables e below (s₁.setTop (mkF m 56 #[.val (.int p0), .val (.int p1), .val (.int p2), .val (.int p3), .val (.int p4), .val (.int p5), .val (.int fr), .val (.int wt), .val (.int hd), .val (.int ld), .unset, .unset, .unset, .unset, .unset, .unset, .unset, .unset, .unset, .unset, .unset, .unset, .unset] [(.int pp)])) t
    refine XS.istore X0.here hx rfl (hb hby at_56) rfl (l' := #[.val (.int p0), .val (.int p1), .val (.int p2), .val (.int p3), .val (.int p4), .val (.int p5), .val (.int fr), .val (.int wt), .val (.int hd), .val (.int ld), .val (.int pp), .unset, .unset, .unset, .unset, .unset, .unset, .unset, .unset, .unset, .unset, .unset, .unset]) rfl ?_
    show Steps p.tables e below (s₁.setTop (mkF m 58 #[.val (.int p0), .val (.int p1), .val (.int p2), .val (.int p3), .val (.int p4), .val (.int p5), .val (.int fr), .val (.int wt), .val (.int hd), .val (.int ld), .val (.int pp), .unset, .unset, .unset, .unset, .unset, .unset, .unset, .unset, .unset, .unset, .unset, .unset] [])) t
    refine XS.iloadN X0.here hx rfl (hb hby at_58) rfl ?_
    show Steps p.tables e below (s₁.setTop (mkF m 59 #[.val (.int p0), .val (.int p1), .val (.int p2), .val (.int p3), .val (.int p4), .val (.int p5), .val (.int fr), .val (.int wt), .val (.int hd), .val (.int ld), .val (.int pp), .unset, .unset, .unset, .unset, .unset, .unset, .unset, .unset, .unset, .unset, .unset, .unset] [(.int p0)])) t
    refine XS.bipush X0.here hx rfl (hb hby at_59) ?_
    show Steps p.tables e below (s₁.setTop (mkF m 61 #[.val (.int p0), .val (.int p1), .val (.int p2), .val (.int p3), .val (.int p4), .val (.int p5), .val (.int fr), .val (.int wt), .val (.int hd), .val (.int ld), .val (.int pp), .unset, .unset, .unset, .unset, .unset, .unset, .unset, .unset, .unset, .unset, .unset, .unset] [(.int (9 : Int32)), (.int p0)])) t
    refine XS.iushr X0.here hx rfl (hb hby at_61) rfl ?_
    show Steps p.tables e below (s₁.setTop (mkF m 62 #[.val (.int p0), .val (.int p1), .val (.int p2), .val (.int p3), .val (.int p4), .val (.int p5), .val (.int fr), .val (.int wt), .val (.int hd), .val (.int ld), .val (.int pp), .unset, .unset, .unset, .unset, .unset, .unset, .unset, .unset, .unset, .unset, .unset, .unset] [(.int ((p0.toUInt32 >>> ((9 : Int32) &&& 31).toUInt32).toInt32))])) t
    refine XS.bipush X0.here hx rfl (hb hby at_62) ?_
    show Steps p.tables e below (s₁.setTop (mkF m 64 #[.val (.int p0), .val (.int p1), .val (.int p2), .val (.int p3), .val (.int p4), .val (.int p5), .val (.int fr), .val (.int wt), .val (.int hd), .val (.int ld), .val (.int pp), .unset, .unset, .unset, .unset, .unset, .unset, .unset, .unset, .unset, .unset, .unset, .unset] [(.int (15 : Int32)), (.int ((p0.toUInt32 >>> ((9 : Int32) &&& 31).toUInt32).toInt32))])) t
    refine XS.iand X0.here hx rfl (hb hby at_64) rfl ?_
    show Steps p.tables e below (s₁.setTop (mkF m 65 #[.val (.int p0), .val (.int p1), .val (.int p2), .val (.int p3), .val (.int p4), .val (.int p5), .val (.int fr), .val (.int wt), .val (.int hd), .val (.int ld), .val (.int pp), .unset, .unset, .unset, .unset, .unset, .unset, .unset, .unset, .unset, .unset, .unset, .unset] [(.int (((p0.toUInt32 >>> ((9 : Int32) &&& 31).toUInt32).toInt32) &&& (15 : Int32)))])) t
    exact kt
  obtain ⟨qq, hqq⟩ : ∃ z, z = (((p0.toUInt32 >>> ((9 : Int32) &&& 31).toUInt32).toInt32) &&& (15 : Int32)) := ⟨_, rfl⟩
  rw [← hqq]
  refine own_go (T' := s₁) (f' := (mkF m 69 #[.val (.int p0), .val (.int p1), .val (.int p2), .val (.int p3), .val (.int p4), .val (.int p5), .val (.int fr), .val (.int wt), .val (.int hd), .val (.int ld), .val (.int pp), .val (.int qq), .unset, .unset, .unset, .unset, .unset, .unset, .unset, .unset, .unset, .unset, .unset] [(.int (36 : Int32))])) (fun t kt => ?_) ?_
  · show Steps p.tables e below (s₁.setTop (mkF m 65 #[.val (.int p0), .val (.int p1), .val (.int p2), .val (.int p3), .val (.int p4), .val (.int p5), .val (.int fr), .val (.int wt), .val (.int hd), .val (.int ld), .val (.int pp), .unset, .unset, .unset, .unset, .unset, .unset, .unset, .unset, .unset, .unset, .unset, .unset] [(.int qq)])) t
    refine XS.istore X0.here hx rfl (hb hby at_65) rfl (l' := #[.val (.int p0), .val (.int p1), .val (.int p2), .val (.int p3), .val (.int p4), .val (.int p5), .val (.int fr), .val (.int wt), .val (.int hd), .val (.int ld), .val (.int pp), .val (.int qq), .unset, .unset, .unset, .unset, .unset, .unset, .unset, .unset, .unset, .unset, .unset]) rfl ?_
    show Steps p.tables e below (s₁.setTop (mkF m 67 #[.val (.int p0), .val (.int p1), .val (.int p2), .val (.int p3), .val (.int p4), .val (.int p5), .val (.int fr), .val (.int wt), .val (.int hd), .val (.int ld), .val (.int pp), .val (.int qq), .unset, .unset, .unset, .unset, .unset, .unset, .unset, .unset, .unset, .unset, .unset] [])) t
    refine XS.bipush X0.here hx rfl (hb hby at_67) ?_
    show Steps p.tables e below (s₁.setTop (mkF m 69 #[.val (.int p0), .val (.int p1), .val (.int p2), .val (.int p3), .val (.int p4), .val (.int p5), .val (.int fr), .val (.int wt), .val (.int hd), .val (.int ld), .val (.int pp), .val (.int qq), .unset, .unset, .unset, .unset, .unset, .unset, .unset, .unset, .unset, .unset, .unset] [(.int (36 : Int32))])) t
    exact kt
  obtain ⟨T4, h4, k4, X4, e4, E4, A4, st4⟩ := newP X0 hx hZ (hw _ (List.mem_of_getElem? (i := 0) rfl)) e0 (g := (mkF m 69 #[.val (.int p0), .val (.int p1), .val (.int p2), .val (.int p3), .val (.int p4), .val (.int p5), .val (.int fr), .val (.int wt), .val (.int hd), .val (.int ld), .val (.int pp), .val (.int qq), .unset, .unset, .unset, .unset, .unset, .unset, .unset, .unset, .unset, .unset, .unset] [(.int (36 : Int32))])) rfl (hb hby at_69) rfl (by decide) (cap := 36) (by decide) (by decide) (by decide) (by decide)
  obtain ⟨b4, y4⟩ : ∃ z, z = h0.size := ⟨_, rfl⟩
  rw [← y4] at A4 st4
  have g_b4 : n0 ≤ b4 := Nat.le_trans Z0 (Nat.le_of_eq y4.symm)
  have sz_b4 : h0.size ≤ b4 := Nat.le_trans K0.1 (Nat.le_of_eq y4.symm)
  have ZE4 : n0 ≤ h4.size := Nat.le_trans Z0 E4.1
  have KKE4 := K0.ext E4
  have kzE4 := Nat.le_trans (Nat.zero_le _) E4.1
  refine own_go st4 ?_
  have Ar_b4 : own_AB Z h4 b4 36 (fun _ => (0 : Int32)) := own_A_new A4 (by decide)
  refine own_go (T' := T4) (f' := (mkF m 75 #[.val (.int p0), .val (.int p1), .val (.int p2), .val (.int p3), .val (.int p4), .val (.int p5), .val (.int fr), .val (.int wt), .val (.int hd), .val (.int ld), .val (.int pp), .val (.int qq), .unset, .unset, .unset, .unset, .unset, .unset, .unset, .unset, .unset, .unset, .unset] [(.int (48 : Int32)), (.int (0 : Int32)), (.ref b4), (.ref b4)])) (fun t kt => ?_) ?_
  · show Steps p.tables e below (T4.setTop (mkF m 71 #[.val (.int p0), .val (.int p1), .val (.int p2), .val (.int p3), .val (.int p4), .val (.int p5), .val (.int fr), .val (.int wt), .val (.int hd), .val (.int ld), .val (.int pp), .val (.int qq), .unset, .unset, .unset, .unset, .unset, .unset, .unset, .unset, .unset, .unset, .unset] [(.ref b4)])) t
    refine XS.dup X4.here hx rfl (hb hby at_71) rfl rfl ?_
    show Steps p.tables e below (T4.setTop (mkF m 72 #[.val (.int p0), .val (.int p1), .val (.int p2), .val (.int p3), .val (.int p4), .val (.int p5), .val (.int fr), .val (.int wt), .val (.int hd), .val (.int ld), .val (.int pp), .val (.int qq), .unset, .unset, .unset, .unset, .unset, .unset, .unset, .unset, .unset, .unset, .unset] [(.ref b4), (.ref b4)])) t
    refine XS.iconst X4.here hx rfl (hb hby at_72) ?_
    show Steps p.tables e below (T4.setTop (mkF m 73 #[.val (.int p0), .val (.int p1), .val (.int p2), .val (.int p3), .val (.int p4), .val (.int p5), .val (.int fr), .val (.int wt), .val (.int hd), .val (.int ld), .val (.int pp), .val (.int qq), .unset, .unset, .unset, .unset, .unset, .unset, .unset, .unset, .unset, .unset, .unset] [(.int (0 : Int32)), (.ref b4), (.ref b4)])) t
    refine XS.bipush X4.here hx rfl (hb hby at_73) ?_
    show Steps p.tables e below (T4.setTop (mkF m 75 #[.val (.int p0), .val (.int p1), .val (.int p2), .val (.int p3), .val (.int p4), .val (.int p5), .val (.int fr), .val (.int wt), .val (.int hd), .val (.int ld), .val (.int pp), .val (.int qq), .unset, .unset, .unset, .unset, .unset, .unset, .unset, .unset, .unset, .unset, .unset] [(.int (48 : Int32)), (.int (0 : Int32)), (.ref b4), (.ref b4)])) t
    exact kt
  obtain ⟨T5, h5, X5, e5, W5, B5, st5⟩ := own_bastore X4 hx hZ e4 Ar_b4 (i := 0) (by decide) (by decide) (g := (mkF m 75 #[.val (.int p0), .val (.int p1), .val (.int p2), .val (.int p3), .val (.int p4), .val (.int p5), .val (.int fr), .val (.int wt), .val (.int hd), .val (.int ld), .val (.int pp), .val (.int qq), .unset, .unset, .unset, .unset, .unset, .unset, .unset, .unset, .unset, .unset, .unset] [(.int (48 : Int32)), (.int (0 : Int32)), (.ref b4), (.ref b4)])) rfl rfl (hb hby at_75)
  refine own_go st5 ?_
  have N5 := Fr.snoc X5 N0 g_b4
  have Z5 : n0 ≤ h5.size := Nat.le_trans ZE4 (Keep.of_wr W5).1
  have KK5 := KKE4.wr W5 (Or.inr sz_b4)
  have kz5 := Nat.le_trans kzE4 (Keep.of_wr W5).1
  refine own_go (T' := T5) (f' := (mkF m 80 #[.val (.int p0), .val (.int p1), .val (.int p2), .val (.int p3), .val (.int p4), .val (.int p5), .val (.int fr), .val (.int wt), .val (.int hd), .val (.int ld), .val (.int pp), .val (.int qq), .unset, .unset, .unset, .unset, .unset, .unset, .unset, .unset, .unset, .unset, .unset] [(.int (49 : Int32)), (.int (1 : Int32)), (.ref b4), (.ref b4)])) (fun t kt => ?_) ?_
  · show Steps p.tables e below (T5.setTop (mkF m 76 #[.val (.int p0), .val (.int p1), .val (.int p2), .val (.int p3), .val (.int p4), .val (.int p5), .val (.int fr), .val (.int wt), .val (.int hd), .val (.int ld), .val (.int pp), .val (.int qq), .unset, .unset, .unset, .unset, .unset, .unset, .unset, .unset, .unset, .unset, .unset] [(.ref b4)])) t
    refine XS.dup X5.here hx rfl (hb hby at_76) rfl rfl ?_
    show Steps p.tables e below (T5.setTop (mkF m 77 #[.val (.int p0), .val (.int p1), .val (.int p2), .val (.int p3), .val (.int p4), .val (.int p5), .val (.int fr), .val (.int wt), .val (.int hd), .val (.int ld), .val (.int pp), .val (.int qq), .unset, .unset, .unset, .unset, .unset, .unset, .unset, .unset, .unset, .unset, .unset] [(.ref b4), (.ref b4)])) t
    refine XS.iconst X5.here hx rfl (hb hby at_77) ?_
    show Steps p.tables e below (T5.setTop (mkF m 78 #[.val (.int p0), .val (.int p1), .val (.int p2), .val (.int p3), .val (.int p4), .val (.int p5), .val (.int fr), .val (.int wt), .val (.int hd), .val (.int ld), .val (.int pp), .val (.int qq), .unset, .unset, .unset, .unset, .unset, .unset, .unset, .unset, .unset, .unset, .unset] [(.int (1 : Int32)), (.ref b4), (.ref b4)])) t
    refine XS.bipush X5.here hx rfl (hb hby at_78) ?_
    show Steps p.tables e below (T5.setTop (mkF m 80 #[.val (.int p0), .val (.int p1), .val (.int p2), .val (.int p3), .val (.int p4), .val (.int p5), .val (.int fr), .val (.int wt), .val (.int hd), .val (.int ld), .val (.int pp), .val (.int qq), .unset, .unset, .unset, .unset, .unset, .unset, .unset, .unset, .unset, .unset, .unset] [(.int (49 : Int32)), (.int (1 : Int32)), (.ref b4), (.ref b4)])) t
    exact kt
  obtain ⟨T6, h6, X6, e6, W6, B6, st6⟩ := own_bastore X5 hx hZ e5 B5 (i := 1) (by decide) (by decide) (g := (mkF m 80 #[.val (.int p0), .val (.int p1), .val (.int p2), .val (.int p3), .val (.int p4), .val (.int p5), .val (.int fr), .val (.int wt), .val (.int hd), .val (.int ld), .val (.int pp), .val (.int qq), .unset, .unset, .unset, .unset, .unset, .unset, .unset, .unset, .unset, .unset, .unset] [(.int (49 : Int32)), (.int (1 : Int32)), (.ref b4), (.ref b4)])) rfl rfl (hb hby at_80)
  refine own_go st6 ?_
  have N6 := Fr.snoc X6 N5 g_b4
  have Z6 : n0 ≤ h6.size := Nat.le_trans Z5 (Keep.of_wr W6).1
  have KK6 := KK5.wr W6 (Or.inr sz_b4)
  have kz6 := Nat.le_trans kz5 (Keep.of_wr W6).1
  refine own_go (T' := T6) (f' := (mkF m 85 #[.val (.int p0), .val (.int p1), .val (.int p2), .val (.int p3), .val (.int p4), .val (.int p5), .val (.int fr), .val (.int wt), .val (.int hd), .val (.int ld), .val (.int pp), .val (.int qq), .unset, .unset, .unset, .unset, .unset, .unset, .unset, .unset, .unset, .unset, .unset] [(.int (50 : Int32)), (.int (2 : Int32)), (.ref b4), (.ref b4)])) (fun t kt => ?_) ?_
  · show Steps p.tables e below (T6.setTop (mkF m 81 #[.val (.int p0), .val (.int p1), .val (.int p2), .val (.int p3), .val (.int p4), .val (.int p5), .val (.int fr), .val (.int wt), .val (.int hd), .val (.int ld), .val (.int pp), .val (.int qq), .unset, .unset, .unset, .unset, .unset, .unset, .unset, .unset, .unset, .unset, .unset] [(.ref b4)])) t
    refine XS.dup X6.here hx rfl (hb hby at_81) rfl rfl ?_
    show Steps p.tables e below (T6.setTop (mkF m 82 #[.val (.int p0), .val (.int p1), .val (.int p2), .val (.int p3), .val (.int p4), .val (.int p5), .val (.int fr), .val (.int wt), .val (.int hd), .val (.int ld), .val (.int pp), .val (.int qq), .unset, .unset, .unset, .unset, .unset, .unset, .unset, .unset, .unset, .unset, .unset] [(.ref b4), (.ref b4)])) t
    refine XS.iconst X6.here hx rfl (hb hby at_82) ?_
    show Steps p.tables e below (T6.setTop (mkF m 83 #[.val (.int p0), .val (.int p1), .val (.int p2), .val (.int p3), .val (.int p4), .val (.int p5), .val (.int fr), .val (.int wt), .val (.int hd), .val (.int ld), .val (.int pp), .val (.int qq), .unset, .unset, .unset, .unset, .unset, .unset, .unset, .unset, .unset, .unset, .unset] [(.int (2 : Int32)), (.ref b4), (.ref b4)])) t
    refine XS.bipush X6.here hx rfl (hb hby at_83) ?_
    show Steps p.tables e below (T6.setTop (mkF m 85 #[.val (.int p0), .val (.int p1), .val (.int p2), .val (.int p3), .val (.int p4), .val (.int p5), .val (.int fr), .val (.int wt), .val (.int hd), .val (.int ld), .val (.int pp), .val (.int qq), .unset, .unset, .unset, .unset, .unset, .unset, .unset, .unset, .unset, .unset, .unset] [(.int (50 : Int32)), (.int (2 : Int32)), (.ref b4), (.ref b4)])) t
    exact kt
  obtain ⟨T7, h7, X7, e7, W7, B7, st7⟩ := own_bastore X6 hx hZ e6 B6 (i := 2) (by decide) (by decide) (g := (mkF m 85 #[.val (.int p0), .val (.int p1), .val (.int p2), .val (.int p3), .val (.int p4), .val (.int p5), .val (.int fr), .val (.int wt), .val (.int hd), .val (.int ld), .val (.int pp), .val (.int qq), .unset, .unset, .unset, .unset, .unset, .unset, .unset, .unset, .unset, .unset, .unset] [(.int (50 : Int32)), (.int (2 : Int32)), (.ref b4), (.ref b4)])) rfl rfl (hb hby at_85)
  refine own_go st7 ?_
  have N7 := Fr.snoc X7 N6 g_b4
  have Z7 : n0 ≤ h7.size := Nat.le_trans Z6 (Keep.of_wr W7).1
  have KK7 := KK6.wr W7 (Or.inr sz_b4)
  have kz7 := Nat.le_trans kz6 (Keep.of_wr W7).1
  refine own_go (T' := T7) (f' := (mkF m 90 #[.val (.int p0), .val (.int p1), .val (.int p2), .val (.int p3), .val (.int p4), .val (.int p5), .val (.int fr), .val (.int wt), .val (.int hd), .val (.int ld), .val (.int pp), .val (.int qq), .unset, .unset, .unset, .unset, .unset, .unset, .unset, .unset, .unset, .unset, .unset] [(.int (51 : Int32)), (.int (3 : Int32)), (.ref b4), (.ref b4)])) (fun t kt => ?_) ?_
  · show Steps p.tables e below (T7.setTop (mkF m 86 #[.val (.int p0), .val (.int p1), .val (.int p2), .val (.int p3), .val (.int p4), .val (.int p5), .val (.int fr), .val (.int wt), .val (.int hd), .val (.int ld), .val (.int pp), .val (.int qq), .unset, .unset, .unset, .unset, .unset, .unset, .unset, .unset, .unset, .unset, .unset] [(.ref b4)])) t
    refine XS.dup X7.here hx rfl (hb hby at_86) rfl rfl ?_
    show Steps p.tables e below (T7.setTop (mkF m 87 #[.val (.int p0), .val (.int p1), .val (.int p2), .val (.int p3), .val (.int p4), .val (.int p5), .val (.int fr), .val (.int wt), .val (.int hd), .val (.int ld), .val (.int pp), .val (.int qq), .unset, .unset, .unset, .unset, .unset, .unset, .unset, .unset, .unset, .unset, .unset] [(.ref b4), (.ref b4)])) t
    refine XS.iconst X7.here hx rfl (hb hby at_87) ?_
    show Steps p.tables e below (T7.setTop (mkF m 88 #[.val (.int p0), .val (.int p1), .val (.int p2), .val (.int p3), .val (.int p4), .val (.int p5), .val (.int fr), .val (.int wt), .val (.int hd), .val (.int ld), .val (.int pp), .val (.int qq), .unset, .unset, .unset, .unset, .unset, .unset, .unset, .unset, .unset, .unset, .unset] [(.int (3 : Int32)), (.ref b4), (.ref b4)])) t
    refine XS.bipush X7.here hx rfl (hb hby at_88) ?_
    show Steps p.tables e below (T7.setTop (mkF m 90 #[.val (.int p0), .val (.int p1), .val (.int p2), .val (.int p3), .val (.int p4), .val (.int p5), .val (.int fr), .val (.int wt), .val (.int hd), .val (.int ld), .val (.int pp), .val (.int qq), .unset, .unset, .unset, .unset, .unset, .unset, .unset, .unset, .unset, .unset, .unset] [(.int (51 : Int32)), (.int (3 : Int32)), (.ref b4), (.ref b4)])) t
    exact kt
  obtain ⟨T8, h8, X8, e8, W8, B8, st8⟩ := own_bastore X7 hx hZ e7 B7 (i := 3) (by decide) (by decide) (g := (mkF m 90 #[.val (.int p0), .val (.int p1), .val (.int p2), .val (.int p3), .val (.int p4), .val (.int p5), .val (.int fr), .val (.int wt), .val (.int hd), .val (.int ld), .val (.int pp), .val (.int qq), .unset, .unset, .unset, .unset, .unset, .unset, .unset, .unset, .unset, .unset, .unset] [(.int (51 : Int32)), (.int (3 : Int32)), (.ref b4), (.ref b4)])) rfl rfl (hb hby at_90)
  refine own_go st8 ?_
  have N8 := Fr.snoc X8 N7 g_b4
  have Z8 : n0 ≤ h8.size := Nat.le_trans Z7 (Keep.of_wr W8).1
  have KK8 := KK7.wr W8 (Or.inr sz_b4)
  have kz8 := Nat.le_trans kz7 (Keep.of_wr W8).1
  refine own_go (T' := T8) (f' := (mkF m 95 #[.val (.int p0), .val (.int p1), .val (.int p2), .val (.int p3), .val (.int p4), .val (.int p5), .val (.int fr), .val (.int wt), .val (.int hd), .val (.int ld), .val (.int pp), .val (.int qq), .unset, .unset, .unset, .unset, .unset, .unset, .unset, .unset, .unset, .unset, .unset] [(.int (52 : Int32)), (.int (4 : Int32)), (.ref b4), (.ref b4)])) (fun t kt => ?_) ?_
  · show Steps p.tables e below (T8.setTop (mkF m 91 #[.val (.int p0), .val (.int p1), .val (.int p2), .val (.int p3), .val (.int p4), .val (.int p5), .val (.int fr), .val (.int wt), .val (.int hd), .val (.int ld), .val (.int pp), .val (.int qq), .unset, .unset, .unset, .unset, .unset, .unset, .unset, .unset, .unset, .unset, .unset] [(.ref b4)])) t
    refine XS.dup X8.here hx rfl (hb hby at_91) rfl rfl ?_
    show Steps p.tables e below (T8.setTop (mkF m 92 #[.val (.int p0), .val (.int p1), .val (.int p2), .val (.int p3), .val (.int p4), .val (.int p5), .val (.int fr), .val (.int wt), .val (.int hd), .val (.int ld), .val (.int pp), .val (.int qq), .unset, .unset, .unset, .unset, .unset, .unset, .unset, .unset, .unset, .unset, .unset] [(.ref b4), (.ref b4)])) t
    refine XS.iconst X8.here hx rfl (hb hby at_92) ?_
    show Steps p.tables e below (T8.setTop (mkF m 93 #[.val (.int p0), .val (.int p1), .val (.int p2), .val (.int p3), .val (.int p4), .val (.int p5), .val (.int fr), .val (.int wt), .val (.int hd), .val (.int ld), .val (.int pp), .val (.int qq), .unset, .unset, .unset, .unset, .unset, .unset, .unset, .unset, .unset, .unset, .unset] [(.int (4 : Int32)), (.ref b4), (.ref b4)])) t
    refine XS.bipush X8.here hx rfl (hb hby at_93) ?_
    show Steps p.tables e below (T8.setTop (mkF m 95 #[.val (.int p0), .val (.int p1), .val (.int p2), .val (.int p3), .val (.int p4), .val (.int p5), .val (.int fr), .val (.int wt), .val (.int hd), .val (.int ld), .val (.int pp), .val (.int qq), .unset, .unset, .unset, .unset, .unset, .unset, .unset, .unset, .unset, .unset, .unset] [(.int (52 : Int32)), (.int (4 : Int32)), (.ref b4), (.ref b4)])) t
    exact kt
  obtain ⟨T9, h9, X9, e9, W9, B9, st9⟩ := own_bastore X8 hx hZ e8 B8 (i := 4) (by decide) (by decide) (g := (mkF m 95 #[.val (.int p0), .val (.int p1), .val (.int p2), .val (.int p3), .val (.int p4), .val (.int p5), .val (.int fr), .val (.int wt), .val (.int hd), .val (.int ld), .val (.int pp), .val (.int qq), .unset, .unset, .unset, .unset, .unset, .unset, .unset, .unset, .unset, .unset, .unset] [(.int (52 : Int32)), (.int (4 : Int32)), (.ref b4), (.ref b4)])) rfl rfl (hb hby at_95)
  refine own_go st9 ?_
  have N9 := Fr.snoc X9 N8 g_b4
  have Z9 : n0 ≤ h9.size := Nat.le_trans Z8 (Keep.of_wr W9).1
  have KK9 := KK8.wr W9 (Or.inr sz_b4)
  have kz9 := Nat.le_trans kz8 (Keep.of_wr W9).1
  refine own_go (T' := T9) (f' := (mkF m 100 #[.val (.int p0), .val (.int p1), .val (.int p2), .val (.int p3), .val (.int p4), .val (.int p5), .val (.int fr), .val (.int wt), .val (.int hd), .val (.int ld), .val (.int pp), .val (.int qq), .unset, .unset, .unset, .unset, .unset, .unset, .unset, .unset, .unset, .unset, .unset] [(.int (53 : Int32)), (.int (5 : Int32)), (.ref b4), (.ref b4)])) (fun t kt => ?_) ?_
  · show Steps p.tables e below (T9.setTop (mkF m 96 #[.val (.int p0), .val (.int p1), .val (.int p2), .val (.int p3), .val (.int p4), .val (.int p5), .val (.int fr), .val (.int wt), .val (.int hd), .val (.int ld), .val (.int pp), .val (.int qq), .unset, .unset, .unset, .unset, .unset, .unset, .unset, .unset, .unset, .unset, .unset] [(.ref b4)])) t
    refine XS.dup X9.here hx rfl (hb hby at_96) rfl rfl ?_
    show Steps p.tables e below (T9.setTop (mkF m 97 #[.val (.int p0), .val (.int p1), .val (.int p2), .val (.int p3), .val (.int p4), .val (.int p5), .val (.int fr), .val (.int wt), .val (.int hd), .val (.int ld), .val (.int pp), .val (.int qq), .unset, .unset, .unset, .unset, .unset, .unset, .unset, .unset, .unset, .unset, .unset] [(.ref b4), (.ref b4)])) t
    refine XS.iconst X9.here hx rfl (hb hby at_97) ?_
    show Steps p.tables e below (T9.setTop (mkF m 98 #[.val (.int p0), .val (.int p1), .val (.int p2), .val (.int p3), .val (.int p4), .val (.int p5), .val (.int fr), .val (.int wt), .val (.int hd), .val (.int ld), .val (.int pp), .val (.int qq), .unset, .unset, .unset, .unset, .unset, .unset, .unset, .unset, .unset, .unset, .unset] [(.int (5 : Int32)), (.ref b4), (.ref b4)])) t
    refine XS.bipush X9.here hx rfl (hb hby at_98) ?_
    show Steps p.tables e below (T9.setTop (mkF m 100 #[.val (.int p0), .val (.int p1), .val (.int p2), .val (.int p3), .val (.int p4), .val (.int p5), .val (.int fr), .val (.int wt), .val (.int hd), .val (.int ld), .val (.int pp), .val (.int qq), .unset, .unset, .unset, .unset, .unset, .unset, .unset, .unset, .unset, .unset, .unset] [(.int (53 : Int32)), (.int (5 : Int32)), (.ref b4), (.ref b4)])) t
    exact kt
  obtain ⟨T10, h10, X10, e10, W10, B10, st10⟩ := own_bastore X9 hx hZ e9 B9 (i := 5) (by decide) (by decide) (g := (mkF m 100 #[.val (.int p0), .val (.int p1), .val (.int p2), .val (.int p3), .val (.int p4), .val (.int p5), .val (.int fr), .val (.int wt), .val (.int hd), .val (.int ld), .val (.int pp), .val (.int qq), .unset, .unset, .unset, .unset, .unset, .unset, .unset, .unset, .unset, .unset, .unset] [(.int (53 : Int32)), (.int (5 : Int32)), (.ref b4), (.ref b4)])) rfl rfl (hb hby at_100)
  refine own_go st10 ?_
  have N10 := Fr.snoc X10 N9 g_b4
  have Z10 : n0 ≤ h10.size := Nat.le_trans Z9 (Keep.of_wr W10).1
  have KK10 := KK9.wr W10 (Or.inr sz_b4)
  have kz10 := Nat.le_trans kz9 (Keep.of_wr W10).1
  refine own_go (T' := T10) (f' := (mkF m 106 #[.val (.int p0), .val (.int p1), .val (.int p2), .val (.int p3), .val (.int p4), .val (.int p5), .val (.int fr), .val (.int wt), .val (.int hd), .val (.int ld), .val (.int pp), .val (.int qq), .unset, .unset, .unset, .unset, .unset, .unset, .unset, .unset, .unset, .unset, .unset] [(.int (54 : Int32)), (.int (6 : Int32)), (.ref b4), (.ref b4)])) (fun t kt => ?_) ?_
  · show Steps p.tables e below (T10.setTop (mkF m 101 #[.val (.int p0), .val (.int p1), .val (.int p2), .val (.int p3), .val (.int p4), .val (.int p5), .val (.int fr), .val (.int wt), .val (.int hd), .val (.int ld), .val (.int pp), .val (.int qq), .unset, .unset, .unset, .unset, .unset, .unset, .unset, .unset, .unset, .unset, .unset] [(.ref b4)])) t
    refine XS.dup X10.here hx rfl (hb hby at_101) rfl rfl ?_
    show Steps p.tables e below (T10.setTop (mkF m 102 #[.val (.int p0), .val (.int p1), .val (.int p2), .val (.int p3), .val (.int p4), .val (.int p5), .val (.int fr), .val (.int wt), .val (.int hd), .val (.int ld), .val (.int pp), .val (.int qq), .unset, .unset, .unset, .unset, .unset, .unset, .unset, .unset, .unset, .unset, .unset] [(.ref b4), (.ref b4)])) t
    refine XS.bipush X10.here hx rfl (hb hby at_102) ?_
    show Steps p.tables e below (T10.setTop (mkF m 104 #[.val (.int p0), .val (.int p1), .val (.int p2), .val (.int p3), .val (.int p4), .val (.int p5), .val (.int fr), .val (.int wt), .val (.int hd), .val (.int ld), .val (.int pp), .val (.int qq), .unset, .unset, .unset, .unset, .unset, .unset, .unset, .unset, .unset, .unset, .unset] [(.int (6 : Int32)), (.ref b4), (.ref b4)])) t
    refine XS.bipush X10.here hx rfl (hb hby at_104) ?_
    show Steps p.tables e below (T10.setTop (mkF m 106 #[.val (.int p0), .val (.int p1), .val (.int p2), .val (.int p3), .val (.int p4), .val (.int p5), .val (.int fr), .val (.int wt), .val (.int hd), .val (.int ld), .val (.int pp), .val (.int qq), .unset, .unset, .unset, .unset, .unset, .unset, .unset, .unset, .unset, .unset, .unset] [(.int (54 : Int32)), (.int (6 : Int32)), (.ref b4), (.ref b4)])) t
    exact kt
  obtain ⟨T11, h11, X11, e11, W11, B11, st11⟩ := own_bastore X10 hx hZ e10 B10 (i := 6) (by decide) (by decide) (g := (mkF m 106 #[.val (.int p0), .val (.int p1), .val (.int p2), .val (.int p3), .val (.int p4), .val (.int p5), .val (.int fr), .val (.int wt), .val (.int hd), .val (.int ld), .val (.int pp), .val (.int qq), .unset, .unset, .unset, .unset, .unset, .unset, .unset, .unset, .unset, .unset, .unset] [(.int (54 : Int32)), (.int (6 : Int32)), (.ref b4), (.ref b4)])) rfl rfl (hb hby at_106)
  refine own_go st11 ?_
  have N11 := Fr.snoc X11 N10 g_b4
  have Z11 : n0 ≤ h11.size := Nat.le_trans Z10 (Keep.of_wr W11).1
  have KK11 := KK10.wr W11 (Or.inr sz_b4)
  have kz11 := Nat.le_trans kz10 (Keep.of_wr W11).1
  refine own_go (T' := T11) (f' := (mkF m 112 #[.val (.int p0), .val (.int p1), .val (.int p2), .val (.int p3), .val (.int p4), .val (.int p5), .val (.int fr), .val (.int wt), .val (.int hd), .val (.int ld), .val (.int pp), .val (.int qq), .unset, .unset, .unset, .unset, .unset, .unset, .unset, .unset, .unset, .unset, .unset] [(.int (55 : Int32)), (.int (7 : Int32)), (.ref b4), (.ref b4)])) (fun t kt => ?_) ?_
  · show Steps p.tables e below (T11.setTop (mkF m 107 #[.val (.int p0), .val (.int p1), .val (.int p2), .val (.int p3), .val (.int p4), .val (.int p5), .val (.int fr), .val (.int wt), .val (.int hd), .val (.int ld), .val (.int pp), .val (.int qq), .unset, .unset, .unset, .unset, .unset, .unset, .unset, .unset, .unset, .unset, .unset] [(.ref b4)])) t
    refine XS.dup X11.here hx rfl (hb hby at_107) rfl rfl ?_
    show Steps p.tables e below (T11.setTop (mkF m 108 #[.val (.int p0), .val (.int p1), .val (.int p2), .val (.int p3), .val (.int p4), .val (.int p5), .val (.int fr), .val (.int wt), .val (.int hd), .val (.int ld), .val (.int pp), .val (.int qq), .unset, .unset, .unset, .unset, .unset, .unset, .unset, .unset, .unset, .unset, .unset] [(.ref b4), (.ref b4)])) t
    refine XS.bipush X11.here hx rfl (hb hby at_108) ?_
    show Steps p.tables e below (T11.setTop (mkF m 110 #[.val (.int p0), .val (.int p1), .val (.int p2), .val (.int p3), .val (.int p4), .val (.int p5), .val (.int fr), .val (.int wt), .val (.int hd), .val (.int ld), .val (.int pp), .val (.int qq), .unset, .unset, .unset, .unset, .unset, .unset, .unset, .unset, .unset, .unset, .unset] [(.int (7 : Int32)), (.ref b4), (.ref b4)])) t
    refine XS.bipush X11.here hx rfl (hb hby at_110) ?_
    show Steps p.tables e below (T11.setTop (mkF m 112 #[.val (.int p0), .val (.int p1), .val (.int p2), .val (.int p3), .val (.int p4), .val (.int p5), .val (.int fr), .val (.int wt), .val (.int hd), .val (.int ld), .val (.int pp), .val (.int qq), .unset, .unset, .unset, .unset, .unset, .unset, .unset, .unset, .unset, .unset, .unset] [(.int (55 : Int32)), (.int (7 : Int32)), (.ref b4), (.ref b4)])) t
    exact kt
  obtain ⟨T12, h12, X12, e12, W12, B12, st12⟩ := own_bastore X11 hx hZ e11 B11 (i := 7) (by decide) (by decide) (g := (mkF m 112 #[.val (.int p0), .val (.int p1), .val (.int p2), .val (.int p3), .val (.int p4), .val (.int p5), .val (.int fr), .val (.int wt), .val (.int hd), .val (.int ld), .val (.int pp), .val (.int qq), .unset, .unset, .unset, .unset, .unset, .unset, .unset, .unset, .unset, .unset, .unset] [(.int (55 : Int32)), (.int (7 : Int32)), (.ref b4), (.ref b4)])) rfl rfl (hb hby at_112)
  refine own_go st12 ?_
  have N12 := Fr.snoc X12 N11 g_b4
  have Z12 : n0 ≤ h12.size := Nat.le_trans Z11 (Keep.of_wr W12).1
  have KK12 := KK11.wr W12 (Or.inr sz_b4)
  have kz12 := Nat.le_trans kz11 (Keep.of_wr W12).1
  refine own_go (T' := T12) (f' := (mkF m 118 #[.val (.int p0), .val (.int p1), .val (.int p2), .val (.int p3), .val (.int p4), .val (.int p5), .val (.int fr), .val (.int wt), .val (.int hd), .val (.int ld), .val (.int pp), .val (.int qq), .unset, .unset, .unset, .unset, .unset, .unset, .unset, .unset, .unset, .unset, .unset] [(.int (56 : Int32)), (.int (8 : Int32)), (.ref b4), (.ref b4)])) (fun t kt => ?_) ?_
  · show Steps p.tables e below (T12.setTop (mkF m 113 #[.val (.int p0), .val (.int p1), .val (.int p2), .val (.int p3), .val (.int p4), .val (.int p5), .val (.int fr), .val (.int wt), .val (.int hd), .val (.int ld), .val (.int pp), .val (.int qq), .unset, .unset, .unset, .unset, .unset, .unset, .unset, .unset, .unset, .unset, .unset] [(.ref b4)])) t
    refine XS.dup X12.here hx rfl (hb hby at_113) rfl rfl ?_
    show Steps p.tables e below (T12.setTop (mkF m 114 #[.val (.int p0), .val (.int p1), .val (.int p2), .val (.int p3), .val (.int p4), .val (.int p5), .val (.int fr), .val (.int wt), .val (.int hd), .val (.int ld), .val (.int pp), .val (.int qq), .unset, .unset, .unset, .unset, .unset, .unset, .unset, .unset, .unset, .unset, .unset] [(.ref b4), (.ref b4)])) t
    refine XS.bipush X12.here hx rfl (hb hby at_114) ?_
    show Steps p.tables e below (T12.setTop (mkF m 116 #[.val (.int p0), .val (.int p1), .val (.int p2), .val (.int p3), .val (.int p4), .val (.int p5), .val (.int fr), .val (.int wt), .val (.int hd), .val (.int ld), .val (.int pp), .val (.int qq), .unset, .unset, .unset, .unset, .unset, .unset, .unset, .unset, .unset, .unset, .unset] [(.int (8 : Int32)), (.ref b4), (.ref b4)])) t
    refine XS.bipush X12.here hx rfl (hb hby at_116) ?_
    show Steps p.tables e below (T12.setTop (mkF m 118 #[.val (.int p0), .val (.int p1), .val (.int p2), .val (.int p3), .val (.int p4), .val (.int p5), .val (.int fr), .val (.int wt), .val (.int hd), .val (.int ld), .val (.int pp), .val (.int qq), .unset, .unset, .unset, .unset, .unset, .unset, .unset, .unset, .unset, .unset, .unset] [(.int (56 : Int32)), (.int (8 : Int32)), (.ref b4), (.ref b4)])) t
    exact kt
  obtain ⟨T13, h13, X13, e13, W13, B13, st13⟩ := own_bastore X12 hx hZ e12 B12 (i := 8) (by decide) (by decide) (g := (mkF m 118 #[.val (.int p0), .val (.int p1), .val (.int p2), .val (.int p3), .val (.int p4), .val (.int p5), .val (.int fr), .val (.int wt), .val (.int hd), .val (.int ld), .val (.int pp), .val (.int qq), .unset, .unset, .unset, .unset, .unset, .unset, .unset, .unset, .unset, .unset, .unset] [(.int (56 : Int32)), (.int (8 : Int32)), (.ref b4), (.ref b4)])) rfl rfl (hb hby at_118)
  refine own_go st13 ?_
  have N13 := Fr.snoc X13 N12 g_b4
  have Z13 : n0 ≤ h13.size := Nat.le_trans Z12 (Keep.of_wr W13).1
  have KK13 := KK12.wr W13 (Or.inr sz_b4)
  have kz13 := Nat.le_trans kz12 (Keep.of_wr W13).1
  refine own_go (T' := T13) (f' := (mkF m 124 #[.val (.int p0), .val (.int p1), .val (.int p2), .val (.int p3), .val (.int p4), .val (.int p5), .val (.int fr), .val (.int wt), .val (.int hd), .val (.int ld), .val (.int pp), .val (.int qq), .unset, .unset, .unset, .unset, .unset, .unset, .unset, .unset, .unset, .unset, .unset] [(.int (57 : Int32)), (.int (9 : Int32)), (.ref b4), (.ref b4)])) (fun t kt => ?_) ?_
  · show Steps p.tables e below (T13.setTop (mkF m 119 #[.val (.int p0), .val (.int p1), .val (.int p2), .val (.int p3), .val (.int p4), .val (.int p5), .val (.int fr), .val (.int wt), .val (.int hd), .val (.int ld), .val (.int pp), .val (.int qq), .unset, .unset, .unset, .unset, .unset, .unset, .unset, .unset, .unset, .unset, .unset] [(.ref b4)])) t
    refine XS.dup X13.here hx rfl (hb hby at_119) rfl rfl ?_
    show Steps p.tables e below (T13.setTop (mkF m 120 #[.val (.int p0), .val (.int p1), .val (.int p2), .val (.int p3), .val (.int p4), .val (.int p5), .val (.int fr), .val (.int wt), .val (.int hd), .val (.int ld), .val (.int pp), .val (.int qq), .unset, .unset, .unset, .unset, .unset, .unset, .unset, .unset, .unset, .unset, .unset] [(.ref b4), (.ref b4)])) t
    refine XS.bipush X13.here hx rfl (hb hby at_120) ?_
    show Steps p.tables e below (T13.setTop (mkF m 122 #[.val (.int p0), .val (.int p1), .val (.int p2), .val (.int p3), .val (.int p4), .val (.int p5), .val (.int fr), .val (.int wt), .val (.int hd), .val (.int ld), .val (.int pp), .val (.int qq), .unset, .unset, .unset, .unset, .unset, .unset, .unset, .unset, .unset, .unset, .unset] [(.int (9 : Int32)), (.ref b4), (.ref b4)])) t
    refine XS.bipush X13.here hx rfl (hb hby at_122) ?_
    show Steps p.tables e below (T13.setTop (mkF m 124 #[.val (.int p0), .val (.int p1), .val (.int p2), .val (.int p3), .val (.int p4), .val (.int p5), .val (.int fr), .val (.int wt), .val (.int hd), .val (.int ld), .val (.int pp), .val (.int qq), .unset, .unset, .unset, .unset, .unset, .unset, .unset, .unset, .unset, .unset, .unset] [(.int (57 : Int32)), (.int (9 : Int32)), (.ref b4), (.ref b4)])) t
    exact kt
  obtain ⟨T14, h14, X14, e14, W14, B14, st14⟩ := own_bastore X13 hx hZ e13 B13 (i := 9) (by decide) (by decide) (g := (mkF m 124 #[.val (.int p0), .val (.int p1), .val (.int p2), .val (.int p3), .val (.int p4), .val (.int p5), .val (.int fr), .val (.int wt), .val (.int hd), .val (.int ld), .val (.int pp), .val (.int qq), .unset, .unset, .unset, .unset, .unset, .unset, .unset, .unset, .unset, .unset, .unset] [(.int (57 : Int32)), (.int (9 : Int32)), (.ref b4), (.ref b4)])) rfl rfl (hb hby at_124)
  refine own_go st14 ?_
  have N14 := Fr.snoc X14 N13 g_b4
  have Z14 : n0 ≤ h14.size := Nat.le_trans Z13 (Keep.of_wr W14).1
  have KK14 := KK13.wr W14 (Or.inr sz_b4)
  have kz14 := Nat.le_trans kz13 (Keep.of_wr W14).1
  refine own_go (T' := T14) (f' := (mkF m 130 #[.val (.int p0), .val (.int p1), .val (.int p2), .val (.int p3), .val (.int p4), .val (.int p5), .val (.int fr), .val (.int wt), .val (.int hd), .val (.int ld), .val (.int pp), .val (.int qq), .unset, .unset, .unset, .unset, .unset, .unset, .unset, .unset, .unset, .unset, .unset] [(.int (97 : Int32)), (.int (10 : Int32)), (.ref b4), (.ref b4)])) (fun t kt => ?_) ?_
  · show Steps p.tables e below (T14.setTop (mkF m 125 #[.val (.int p0), .val (.int p1), .val (.int p2), .val (.int p3), .val (.int p4), .val (.int p5), .val (.int fr), .val (.int wt), .val (.int hd), .val (.int ld), .val (.int pp), .val (.int qq), .unset, .unset, .unset, .unset, .unset, .unset, .unset, .unset, .unset, .unset, .unset] [(.ref b4)])) t
    refine XS.dup X14.here hx rfl (hb hby at_125) rfl rfl ?_
    show Steps p.tables e below (T14.setTop (mkF m 126 #[.val (.int p0), .val (.int p1), .val (.int p2), .val (.int p3), .val (.int p4), .val (.int p5), .val (.int fr), .val (.int wt), .val (.int hd), .val (.int ld), .val (.int pp), .val (.int qq), .unset, .unset, .unset, .unset, .unset, .unset, .unset, .unset, .unset, .unset, .unset] [(.ref b4), (.ref b4)])) t
    refine XS.bipush X14.here hx rfl (hb hby at_126) ?_
    show Steps p.tables e below (T14.setTop (mkF m 128 #[.val (.int p0), .val (.int p1), .val (.int p2), .val (.int p3), .val (.int p4), .val (.int p5), .val (.int fr), .val (.int wt), .val (.int hd), .val (.int ld), .val (.int pp), .val (.int qq), .unset, .unset, .unset, .unset, .unset, .unset, .unset, .unset, .unset, .unset, .unset] [(.int (10 : Int32)), (.ref b4), (.ref b4)])) t
    refine XS.bipush X14.here hx rfl (hb hby at_128) ?_
    show Steps p.tables e below (T14.setTop (mkF m 130 #[.val (.int p0), .val (.int p1), .val (.int p2), .val (.int p3), .val (.int p4), .val (.int p5), .val (.int fr), .val (.int wt), .val (.int hd), .val (.int ld), .val (.int pp), .val (.int qq), .unset, .unset, .unset, .unset, .unset, .unset, .unset, .unset, .unset, .unset, .unset] [(.int (97 : Int32)), (.int (10 : Int32)), (.ref b4), (.ref b4)])) t
    exact kt
  obtain ⟨T15, h15, X15, e15, W15, B15, st15⟩ := own_bastore X14 hx hZ e14 B14 (i := 10) (by decide) (by decide) (g := (mkF m 130 #[.val (.int p0), .val (.int p1), .val (.int p2), .val (.int p3), .val (.int p4), .val (.int p5), .val (.int fr), .val (.int wt), .val (.int hd), .val (.int ld), .val (.int pp), .val (.int qq), .unset, .unset, .unset, .unset, .unset, .unset, .unset, .unset, .unset, .unset, .unset] [(.int (97 : Int32)), (.int (10 : Int32)), (.ref b4), (.ref b4)])) rfl rfl (hb hby at_130)
  refine own_go st15 ?_
  have N15 := Fr.snoc X15 N14 g_b4
  have Z15 : n0 ≤ h15.size := Nat.le_trans Z14 (Keep.of_wr W15).1
  have KK15 := KK14.wr W15 (Or.inr sz_b4)
  have kz15 := Nat.le_trans kz14 (Keep.of_wr W15).1
  refine own_go (T' := T15) (f' := (mkF m 136 #[.val (.int p0), .val (.int p1), .val (.int p2), .val (.int p3), .val (.int p4), .val (.int p5), .val (.int fr), .val (.int wt), .val (.int hd), .val (.int ld), .val (.int pp), .val (.int qq), .unset, .unset, .unset, .unset, .unset, .unset, .unset, .unset, .unset, .unset, .unset] [(.int (98 : Int32)), (.int (11 : Int32)), (.ref b4), (.ref b4)])) (fun t kt => ?_) ?_
  · show Steps p.tables e below (T15.setTop (mkF m 131 #[.val (.int p0), .val (.int p1), .val (.int p2), .val (.int p3), .val (.int p4), .val (.int p5), .val (.int fr), .val (.int wt), .val (.int hd), .val (.int ld), .val (.int pp), .val (.int qq), .unset, .unset, .unset, .unset, .unset, .unset, .unset, .unset, .unset, .unset, .unset] [(.ref b4)])) t
    refine XS.dup X15.here hx rfl (hb hby at_131) rfl rfl ?_
    show Steps p.tables e below (T15.setTop (mkF m 132 #[.val (.int p0), .val (.int p1), .val (.int p2), .val (.int p3), .val (.int p4), .val (.int p5), .val (.int fr), .val (.int wt), .val (.int hd), .val (.int ld), .val (.int pp), .val (.int qq), .unset, .unset, .unset, .unset, .unset, .unset, .unset, .unset, .unset, .unset, .unset] [(.ref b4), (.ref b4)])) t
    refine XS.bipush X15.here hx rfl (hb hby at_132) ?_
    show Steps p.tables e below (T15.setTop (mkF m 134 #[.val (.int p0), .val (.int p1), .val (.int p2), .val (.int p3), .val (.int p4), .val (.int p5), .val (.int fr), .val (.int wt), .val (.int hd), .val (.int ld), .val (.int pp), .val (.int qq), .unset, .unset, .unset, .unset, .unset, .unset, .unset, .unset, .unset, .unset, .unset] [(.int (11 : Int32)), (.ref b4), (.ref b4)])) t
    refine XS.bipush X15.here hx rfl (hb hby at_134) ?_
    show Steps p.tables e below (T15.setTop (mkF m 136 #[.val (.int p0), .val (.int p1), .val (.int p2), .val (.int p3), .val (.int p4), .val (.int p5), .val (.int fr), .val (.int wt), .val (.int hd), .val (.int ld), .val (.int pp), .val (.int qq), .unset, .unset, .unset, .unset, .unset, .unset, .unset, .unset, .unset, .unset, .unset] [(.int (98 : Int32)), (.int (11 : Int32)), (.ref b4), (.ref b4)])) t
    exact kt
  obtain ⟨T16, h16, X16, e16, W16, B16, st16⟩ := own_bastore X15 hx hZ e15 B15 (i := 11) (by decide) (by decide) (g := (mkF m 136 #[.val (.int p0), .val (.int p1), .val (.int p2), .val (.int p3), .val (.int p4), .val (.int p5), .val (.int fr), .val (.int wt), .val (.int hd), .val (.int ld), .val (.int pp), .val (.int qq), .unset, .unset, .unset, .unset, .unset, .unset, .unset, .unset, .unset, .unset, .unset] [(.int (98 : Int32)), (.int (11 : Int32)), (.ref b4), (.ref b4)])) rfl rfl (hb hby at_136)
  refine own_go st16 ?_
  have N16 := Fr.snoc X16 N15 g_b4
  have Z16 : n0 ≤ h16.size := Nat.le_trans Z15 (Keep.of_wr W16).1
  have KK16 := KK15.wr W16 (Or.inr sz_b4)
  have kz16 := Nat.le_trans kz15 (Keep.of_wr W16).1
  refine own_go (T' := T16) (f' := (mkF m 142 #[.val (.int p0), .val (.int p1), .val (.int p2), .val (.int p3), .val (.int p4), .val (.int p5), .val (.int fr), .val (.int wt), .val (.int hd), .val (.int ld), .val (.int pp), .val (.int qq), .unset, .unset, .unset, .unset, .unset, .unset, .unset, .unset, .unset, .unset, .unset] [(.int (99 : Int32)), (.int (12 : Int32)), (.ref b4), (.ref b4)])) (fun t kt => ?_) ?_
  · show Steps p.tables e below (T16.setTop (mkF m 137 #[.val (.int p0), .val (.int p1), .val (.int p2), .val (.int p3), .val (.int p4), .val (.int p5), .val (.int fr), .val (.int wt), .val (.int hd), .val (.int ld), .val (.int pp), .val (.int qq), .unset, .unset, .unset, .unset, .unset, .unset, .unset, .unset, .unset, .unset, .unset] [(.ref b4)])) t
    refine XS.dup X16.here hx rfl (hb hby at_137) rfl rfl ?_
    show Steps p.tables e below (T16.setTop (mkF m 138 #[.val (.int p0), .val (.int p1), .val (.int p2), .val (.int p3), .val (.int p4), .val (.int p5), .val (.int fr), .val (.int wt), .val (.int hd), .val (.int ld), .val (.int pp), .val (.int qq), .unset, .unset, .unset, .unset, .unset, .unset, .unset, .unset, .unset, .unset, .unset] [(.ref b4), (.ref b4)])) t
    refine XS.bipush X16.here hx rfl (hb hby at_138) ?_
    show Steps p.tables e below (T16.setTop (mkF m 140 #[.val (.int p0), .val (.int p1), .val (.int p2), .val (.int p3), .val (.int p4), .val (.int p5), .val (.int fr), .val (.int wt), .val (.int hd), .val (.int ld), .val (.int pp), .val (.int qq), .unset, .unset, .unset, .unset, .unset, .unset, .unset, .unset, .unset, .unset, .unset] [(.int (12 : Int32)), (.ref b4), (.ref b4)])) t
    refine XS.bipush X16.here hx rfl (hb hby at_140) ?_
    show Steps p.tables e below (T16.setTop (mkF m 142 #[.val (.int p0), .val (.int p1), .val (.int p2), .val (.int p3), .val (.int p4), .val (.int p5), .val (.int fr), .val (.int wt), .val (.int hd), .val (.int ld), .val (.int pp), .val (.int qq), .unset, .unset, .unset, .unset, .unset, .unset, .unset, .unset, .unset, .unset, .unset] [(.int (99 : Int32)), (.int (12 : Int32)), (.ref b4), (.ref b4)])) t
    exact kt
  obtain ⟨T17, h17, X17, e17, W17, B17, st17⟩ := own_bastore X16 hx hZ e16 B16 (i := 12) (by decide) (by decide) (g := (mkF m 142 #[.val (.int p0), .val (.int p1), .val (.int p2), .val (.int p3), .val (.int p4), .val (.int p5), .val (.int fr), .val (.int wt), .val (.int hd), .val (.int ld), .val (.int pp), .val (.int qq), .unset, .unset, .unset, .unset, .unset, .unset, .unset, .unset, .unset, .unset, .unset] [(.int (99 : Int32)), (.int (12 : Int32)), (.ref b4), (.ref b4)])) rfl rfl (hb hby at_142)
  refine own_go st17 ?_
  have N17 := Fr.snoc X17 N16 g_b4
  have Z17 : n0 ≤ h17.size := Nat.le_trans Z16 (Keep.of_wr W17).1
  have KK17 := KK16.wr W17 (Or.inr sz_b4)
  have kz17 := Nat.le_trans kz16 (Keep.of_wr W17).1
  refine own_go (T' := T17) (f' := (mkF m 148 #[.val (.int p0), .val (.int p1), .val (.int p2), .val (.int p3), .val (.int p4), .val (.int p5), .val (.int fr), .val (.int wt), .val (.int hd), .val (.int ld), .val (.int pp), .val (.int qq), .unset, .unset, .unset, .unset, .unset, .unset, .unset, .unset, .unset, .unset, .unset] [(.int (100 : Int32)), (.int (13 : Int32)), (.ref b4), (.ref b4)])) (fun t kt => ?_) ?_
  · show Steps p.tables e below (T17.setTop (mkF m 143 #[.val (.int p0), .val (.int p1), .val (.int p2), .val (.int p3), .val (.int p4), .val (.int p5), .val (.int fr), .val (.int wt), .val (.int hd), .val (.int ld), .val (.int pp), .val (.int qq), .unset, .unset, .unset, .unset, .unset, .unset, .unset, .unset, .unset, .unset, .unset] [(.ref b4)])) t
    refine XS.dup X17.here hx rfl (hb hby at_143) rfl rfl ?_
    show Steps p.tables e below (T17.setTop (mkF m 144 #[.val (.int p0), .val (.int p1), .val (.int p2), .val (.int p3), .val (.int p4), .val (.int p5), .val (.int fr), .val (.int wt), .val (.int hd), .val (.int ld), .val (.int pp), .val (.int qq), .unset, .unset, .unset, .unset, .unset, .unset, .unset, .unset, .unset, .unset, .unset] [(.ref b4), (.ref b4)])) t
    refine XS.bipush X17.here hx rfl (hb hby at_144) ?_
    show Steps p.tables e below (T17.setTop (mkF m 146 #[.val (.int p0), .val (.int p1), .val (.int p2), .val (.int p3), .val (.int p4), .val (.int p5), .val (.int fr), .val (.int wt), .val (.int hd), .val (.int ld), .val (.int pp), .val (.int qq), .unset, .unset, .unset, .unset, .unset, .unset, .unset, .unset, .unset, .unset, .unset] [(.int (13 : Int32)), (.ref b4), (.ref b4)])) t
    refine XS.bipush X17.here hx rfl (hb hby at_146) ?_
    show Steps p.tables e below (T17.setTop (mkF m 148 #[.val (.int p0), .val (.int p1), .val (.int p2), .val (.int p3), .val (.int p4), .val (.int p5), .val (.int fr), .val (.int wt), .val (.int hd), .val (.int ld), .val (.int pp), .val (.int qq), .unset, .unset, .unset, .unset, .unset, .unset, .unset, .unset, .unset, .unset, .unset] [(.int (100 : Int32)), (.int (13 : Int32)), (.ref b4), (.ref b4)])) t
    exact kt
  obtain ⟨T18, h18, X18, e18, W18, B18, st18⟩ := own_bastore X17 hx hZ e17 B17 (i := 13) (by decide) (by decide) (g := (mkF m 148 #[.val (.int p0), .val (.int p1), .val (.int p2), .val (.int p3), .val (.int p4), .val (.int p5), .val (.int fr), .val (.int wt), .val (.int hd), .val (.int ld), .val (.int pp), .val (.int qq), .unset, .unset, .unset, .unset, .unset, .unset, .unset, .unset, .unset, .unset, .unset] [(.int (100 : Int32)), (.int (13 : Int32)), (.ref b4), (.ref b4)])) rfl rfl (hb hby at_148)
  refine own_go st18 ?_
  have N18 := Fr.snoc X18 N17 g_b4
  have Z18 : n0 ≤ h18.size := Nat.le_trans Z17 (Keep.of_wr W18).1
  have KK18 := KK17.wr W18 (Or.inr sz_b4)
  have kz18 := Nat.le_trans kz17 (Keep.of_wr W18).1
  refine own_go (T' := T18) (f' := (mkF m 154 #[.val (.int p0), .val (.int p1), .val (.int p2), .val (.int p3), .val (.int p4), .val (.int p5), .val (.int fr), .val (.int wt), .val (.int hd), .val (.int ld), .val (.int pp), .val (.int qq), .unset, .unset, .unset, .unset, .unset, .unset, .unset, .unset, .unset, .unset, .unset] [(.int (101 : Int32)), (.int (14 : Int32)), (.ref b4), (.ref b4)])) (fun t kt => ?_) ?_
  · show Steps p.tables e below (T18.setTop (mkF m 149 #[.val (.int p0), .val (.int p1), .val (.int p2), .val (.int p3), .val (.int p4), .val (.int p5), .val (.int fr), .val (.int wt), .val (.int hd), .val (.int ld), .val (.int pp), .val (.int qq), .unset, .unset, .unset, .unset, .unset, .unset, .unset, .unset, .unset, .unset, .unset] [(.ref b4)])) t
    refine XS.dup X18.here hx rfl (hb hby at_149) rfl rfl ?_
    show Steps p.tables e below (T18.setTop (mkF m 150 #[.val (.int p0), .val (.int p1), .val (.int p2), .val (.int p3), .val (.int p4), .val (.int p5), .val (.int fr), .val (.int wt), .val (.int hd), .val (.int ld), .val (.int pp), .val (.int qq), .unset, .unset, .unset, .unset, .unset, .unset, .unset, .unset, .unset, .unset, .unset] [(.ref b4), (.ref b4)])) t
    refine XS.bipush X18.here hx rfl (hb hby at_150) ?_
    show Steps p.tables e below (T18.setTop (mkF m 152 #[.val (.int p0), .val (.int p1), .val (.int p2), .val (.int p3), .val (.int p4), .val (.int p5), .val (.int fr), .val (.int wt), .val (.int hd), .val (.int ld), .val (.int pp), .val (.int qq), .unset, .unset, .unset, .unset, .unset, .unset, .unset, .unset, .unset, .unset, .unset] [(.int (14 : Int32)), (.ref b4), (.ref b4)])) t
    refine XS.bipush X18.here hx rfl (hb hby at_152) ?_
    show Steps p.tables e below (T18.setTop (mkF m 154 #[.val (.int p0), .val (.int p1), .val (.int p2), .val (.int p3), .val (.int p4), .val (.int p5), .val (.int fr), .val (.int wt), .val (.int hd), .val (.int ld), .val (.int pp), .val (.int qq), .unset, .unset, .unset, .unset, .unset, .unset, .unset, .unset, .unset, .unset, .unset] [(.int (101 : Int32)), (.int (14 : Int32)), (.ref b4), (.ref b4)])) t
    exact kt
  obtain ⟨T19, h19, X19, e19, W19, B19, st19⟩ := own_bastore X18 hx hZ e18 B18 (i := 14) (by decide) (by decide) (g := (mkF m 154 #[.val (.int p0), .val (.int p1), .val (.int p2), .val (.int p3), .val (.int p4), .val (.int p5), .val (.int fr), .val (.int wt), .val (.int hd), .val (.int ld), .val (.int pp), .val (.int qq), .unset, .unset, .unset, .unset, .unset, .unset, .unset, .unset, .unset, .unset, .unset] [(.int (101 : Int32)), (.int (14 : Int32)), (.ref b4), (.ref b4)])) rfl rfl (hb hby at_154)
  refine own_go st19 ?_
  have N19 := Fr.snoc X19 N18 g_b4
  have Z19 : n0 ≤ h19.size := Nat.le_trans Z18 (Keep.of_wr W19).1
  have KK19 := KK18.wr W19 (Or.inr sz_b4)
  have kz19 := Nat.le_trans kz18 (Keep.of_wr W19).1
  refine own_go (T' := T19) (f' := (mkF m 160 #[.val (.int p0), .val (.int p1), .val (.int p2), .val (.int p3), .val (.int p4), .val (.int p5), .val (.int fr), .val (.int wt), .val (.int hd), .val (.int ld), .val (.int pp), .val (.int qq), .unset, .unset, .unset, .unset, .unset, .unset, .unset, .unset, .unset, .unset, .unset] [(.int (102 : Int32)), (.int (15 : Int32)), (.ref b4), (.ref b4)])) (fun t kt => ?_) ?_
  · show Steps p.tables e below (T19.setTop (mkF m 155 #[.val (.int p0), .val (.int p1), .val (.int p2), .val (.int p3), .val (.int p4), .val (.int p5), .val (.int fr), .val (.int wt), .val (.int hd), .val (.int ld), .val (.int pp), .val (.int qq), .unset, .unset, .unset, .unset, .unset, .unset, .unset, .unset, .unset, .unset, .unset] [(.ref b4)])) t
    refine XS.dup X19.here hx rfl (hb hby at_155) rfl rfl ?_
    show Steps p.tables e below (T19.setTop (mkF m 156 #[.val (.int p0), .val (.int p1), .val (.int p2), .val (.int p3), .val (.int p4), .val (.int p5), .val (.int fr), .val (.int wt), .val (.int hd), .val (.int ld), .val (.int pp), .val (.int qq), .unset, .unset, .unset, .unset, .unset, .unset, .unset, .unset, .unset, .unset, .unset] [(.ref b4), (.ref b4)])) t
    refine XS.bipush X19.here hx rfl (hb hby at_156) ?_
    show Steps p.tables e below (T19.setTop (mkF m 158 #[.val (.int p0), .val (.int p1), .val (.int p2), .val (.int p3), .val (.int p4), .val (.int p5), .val (.int fr), .val (.int wt), .val (.int hd), .val (.int ld), .val (.int pp), .val (.int qq), .unset, .unset, .unset, .unset, .unset, .unset, .unset, .unset, .unset, .unset, .unset] [(.int (15 : Int32)), (.ref b4), (.ref b4)])) t
    refine XS.bipush X19.here hx rfl (hb hby at_158) ?_
    show Steps p.tables e below (T19.setTop (mkF m 160 #[.val (.int p0), .val (.int p1), .val (.int p2), .val (.int p3), .val (.int p4), .val (.int p5), .val (.int fr), .val (.int wt), .val (.int hd), .val (.int ld), .val (.int pp), .val (.int qq), .unset, .unset, .unset, .unset, .unset, .unset, .unset, .unset, .unset, .unset, .unset] [(.int (102 : Int32)), (.int (15 : Int32)), (.ref b4), (.ref b4)])) t
    exact kt
  obtain ⟨T20, h20, X20, e20, W20, B20, st20⟩ := own_bastore X19 hx hZ e19 B19 (i := 15) (by decide) (by decide) (g := (mkF m 160 #[.val (.int p0), .val (.int p1), .val (.int p2), .val (.int p3), .val (.int p4), .val (.int p5), .val (.int fr), .val (.int wt), .val (.int hd), .val (.int ld), .val (.int pp), .val (.int qq), .unset, .unset, .unset, .unset, .unset, .unset, .unset, .unset, .unset, .unset, .unset] [(.int (102 : Int32)), (.int (15 : Int32)), (.ref b4), (.ref b4)])) rfl rfl (hb hby at_160)
  refine own_go st20 ?_
  have N20 := Fr.snoc X20 N19 g_b4
  have Z20 : n0 ≤ h20.size := Nat.le_trans Z19 (Keep.of_wr W20).1
  have KK20 := KK19.wr W20 (Or.inr sz_b4)
  have kz20 := Nat.le_trans kz19 (Keep.of_wr W20).1
  refine own_go (T' := T20) (f' := (mkF m 166 #[.val (.int p0), .val (.int p1), .val (.int p2), .val (.int p3), .val (.int p4), .val (.int p5), .val (.int fr), .val (.int wt), .val (.int hd), .val (.int ld), .val (.int pp), .val (.int qq), .unset, .unset, .unset, .unset, .unset, .unset, .unset, .unset, .unset, .unset, .unset] [(.int (65 : Int32)), (.int (16 : Int32)), (.ref b4), (.ref b4)])) (fun t kt => ?_) ?_
  · show Steps p.tables e below (T20.setTop (mkF m 161 #[.val (.int p0), .val (.int p1), .val (.int p2), .val (.int p3), .val (.int p4), .val (.int p5), .val (.int fr), .val (.int wt), .val (.int hd), .val (.int ld), .val (.int pp), .val (.int qq), .unset, .unset, .unset, .unset, .unset, .unset, .unset, .unset, .unset, .unset, .unset] [(.ref b4)])) t
    refine XS.dup X20.here hx rfl (hb hby at_161) rfl rfl ?_
    show Steps p.tables e below (T20.setTop (mkF m 162 #[.val (.int p0), .val (.int p1), .val (.int p2), .val (.int p3), .val (.int p4), .val (.int p5), .val (.int fr), .val (.int wt), .val (.int hd), .val (.int ld), .val (.int pp), .val (.int qq), .unset, .unset, .unset, .unset, .unset, .unset, .unset, .unset, .unset, .unset, .unset] [(.ref b4), (.ref b4)])) t
    refine XS.bipush X20.here hx rfl (hb hby at_162) ?_
    show Steps p.tables e below (T20.setTop (mkF m 164 #[.val (.int p0), .val (.int p1), .val (.int p2), .val (.int p3), .val (.int p4), .val (.int p5), .val (.int fr), .val (.int wt), .val (.int hd), .val (.int ld), .val (.int pp), .val (.int qq), .unset, .unset, .unset, .unset, .unset, .unset, .unset, .unset, .unset, .unset, .unset] [(.int (16 : Int32)), (.ref b4), (.ref b4)])) t
    refine XS.bipush X20.here hx rfl (hb hby at_164) ?_
    show Steps p.tables e below (T20.setTop (mkF m 166 #[.val (.int p0), .val (.int p1), .val (.int p2), .val (.int p3), .val (.int p4), .val (.int p5), .val (.int fr), .val (.int wt), .val (.int hd), .val (.int ld), .val (.int pp), .val (.int qq), .unset, .unset, .unset, .unset, .unset, .unset, .unset, .unset, .unset, .unset, .unset] [(.int (65 : Int32)), (.int (16 : Int32)), (.ref b4), (.ref b4)])) t
    exact kt
  obtain ⟨T21, h21, X21, e21, W21, B21, st21⟩ := own_bastore X20 hx hZ e20 B20 (i := 16) (by decide) (by decide) (g := (mkF m 166 #[.val (.int p0), .val (.int p1), .val (.int p2), .val (.int p3), .val (.int p4), .val (.int p5), .val (.int fr), .val (.int wt), .val (.int hd), .val (.int ld), .val (.int pp), .val (.int qq), .unset, .unset, .unset, .unset, .unset, .unset, .unset, .unset, .unset, .unset, .unset] [(.int (65 : Int32)), (.int (16 : Int32)), (.ref b4), (.ref b4)])) rfl rfl (hb hby at_166)
  refine own_go st21 ?_
  have N21 := Fr.snoc X21 N20 g_b4
  have Z21 : n0 ≤ h21.size := Nat.le_trans Z20 (Keep.of_wr W21).1
  have KK21 := KK20.wr W21 (Or.inr sz_b4)
  have kz21 := Nat.le_trans kz20 (Keep.of_wr W21).1
  refine own_go (T' := T21) (f' := (mkF m 172 #[.val (.int p0), .val (.int p1), .val (.int p2), .val (.int p3), .val (.int p4), .val (.int p5), .val (.int fr), .val (.int wt), .val (.int hd), .val (.int ld), .val (.int pp), .val (.int qq), .unset, .unset, .unset, .unset, .unset, .unset, .unset, .unset, .unset, .unset, .unset] [(.int (66 : Int32)), (.int (17 : Int32)), (.ref b4), (.ref b4)])) (fun t kt => ?_) ?_
  · show Steps p.tables e below (T21.setTop (mkF m 167 #[.val (.int p0), .val (.int p1), .val (.int p2), .val (.int p3), .val (.int p4), .val (.int p5), .val (.int fr), .val (.int wt), .val (.int hd), .val (.int ld), .val (.int pp), .val (.int qq), .unset, .unset, .unset, .unset, .unset, .unset, .unset, .unset, .unset, .unset, .unset] [(.ref b4)])) t
    refine XS.dup X21.here hx rfl (hb hby at_167) rfl rfl ?_
    show Steps p.tables e below (T21.setTop (mkF m 168 #[.val (.int p0), .val (.int p1), .val (.int p2), .val (.int p3), .val (.int p4), .val (.int p5), .val (.int fr), .val (.int wt), .val (.int hd), .val (.int ld), .val (.int pp), .val (.int qq), .unset, .unset, .unset, .unset, .unset, .unset, .unset, .unset, .unset, .unset, .unset] [(.ref b4), (.ref b4)])) t
    refine XS.bipush X21.here hx rfl (hb hby at_168) ?_
    show Steps p.tables e below (T21.setTop (mkF m 170 #[.val (.int p0), .val (.int p1), .val (.int p2), .val (.int p3), .val (.int p4), .val (.int p5), .val (.int fr), .val (.int wt), .val (.int hd), .val (.int ld), .val (.int pp), .val (.int qq), .unset, .unset, .unset, .unset, .unset, .unset, .unset, .unset, .unset, .unset, .unset] [(.int (17 : Int32)), (.ref b4), (.ref b4)])) t
    refine XS.bipush X21.here hx rfl (hb hby at_170) ?_
    show Steps p.tables e below (T21.setTop (mkF m 172 #[.val (.int p0), .val (.int p1), .val (.int p2), .val (.int p3), .val (.int p4), .val (.int p5), .val (.int fr), .val (.int wt), .val (.int hd), .val (.int ld), .val (.int pp), .val (.int qq), .unset, .unset, .unset, .unset, .unset, .unset, .unset, .unset, .unset, .unset, .unset] [(.int (66 : Int32)), (.int (17 : Int32)), (.ref b4), (.ref b4)])) t
    exact kt
  obtain ⟨T22, h22, X22, e22, W22, B22, st22⟩ := own_bastore X21 hx hZ e21 B21 (i := 17) (by decide) (by decide) (g := (mkF m 172 #[.val (.int p0), .val (.int p1), .val (.int p2), .val (.int p3), .val (.int p4), .val (.int p5), .val (.int fr), .val (.int wt), .val (.int hd), .val (.int ld), .val (.int pp), .val (.int qq), .unset, .unset, .unset, .unset, .unset, .unset, .unset, .unset, .unset, .unset, .unset] [(.int (66 : Int32)), (.int (17 : Int32)), (.ref b4), (.ref b4)])) rfl rfl (hb hby at_172)
  refine own_go st22 ?_
  have N22 := Fr.snoc X22 N21 g_b4
  have Z22 : n0 ≤ h22.size := Nat.le_trans Z21 (Keep.of_wr W22).1
  have KK22 := KK21.wr W22 (Or.inr sz_b4)
  have kz22 := Nat.le_trans kz21 (Keep.of_wr W22).1
  refine own_go (T' := T22) (f' := (mkF m 178 #[.val (.int p0), .val (.int p1), .val (.int p2), .val (.int p3), .val (.int p4), .val (.int p5), .val (.int fr), .val (.int wt), .val (.int hd), .val (.int ld), .val (.int pp), .val (.int qq), .unset, .unset, .unset, .unset, .unset, .unset, .unset, .unset, .unset, .unset, .unset] [(.int (67 : Int32)), (.int (18 : Int32)), (.ref b4), (.ref b4)])) (fun t kt => ?_) ?_
  · show Steps p.tables e below (T22.setTop (mkF m 173 #[.val (.int p0), .val (.int p1), .val (.int p2), .val (.int p3), .val (.int p4), .val (.int p5), .val (.int fr), .val (.int wt), .val (.int hd), .val (.int ld), .val (.int pp), .val (.int qq), .unset, .unset, .unset, .unset, .unset, .unset, .unset, .unset, .unset, .unset, .unset] [(.ref b4)])) t
    refine XS.dup X22.here hx rfl (hb hby at_173) rfl rfl ?_
    show Steps p.tables e below (T22.setTop (mkF m 174 #[.val (.int p0), .val (.int p1), .val (.int p2), .val (.int p3), .val (.int p4), .val (.int p5), .val (.int fr), .val (.int wt), .val (.int hd), .val (.int ld), .val (.int pp), .val (.int qq), .unset, .unset, .unset, .unset, .unset, .unset, .unset, .unset, .unset, .unset, .unset] [(.ref b4), (.ref b4)])) t
    refine XS.bipush X22.here hx rfl (hb hby at_174) ?_
    show Steps p.tables e below (T22.setTop (mkF m 176 #[.val (.int p0), .val (.int p1), .val (.int p2), .val (.int p3), .val (.int p4), .val (.int p5), .val (.int fr), .val (.int wt), .val (.int hd), .val (.int ld), .val (.int pp), .val (.int qq), .unset, .unset, .unset, .unset, .unset, .unset, .unset, .unset, .unset, .unset, .unset] [(.int (18 : Int32)), (.ref b4), (.ref b4)])) t
    refine XS.bipush X22.here hx rfl (hb hby at_176) ?_
    show Steps p.tables e below (T22.setTop (mkF m 178 #[.val (.int p0), .val (.int p1), .val (.int p2), .val (.int p3), .val (.int p4), .val (.int p5), .val (.int fr), .val (.int wt), .val (.int hd), .val (.int ld), .val (.int pp), .val (.int qq), .unset, .unset, .unset, .unset, .unset, .unset, .unset, .unset, .unset, .unset, .unset] [(.int (67 : Int32)), (.int (18 : Int32)), (.ref b4), (.ref b4)])) t
    exact kt
  obtain ⟨T23, h23, X23, e23, W23, B23, st23⟩ := own_bastore X22 hx hZ e22 B22 (i := 18) (by decide) (by decide) (g := (mkF m 178 #[.val (.int p0), .val (.int p1), .val (.int p2), .val (.int p3), .val (.int p4), .val (.int p5), .val (.int fr), .val (.int wt), .val (.int hd), .val (.int ld), .val (.int pp), .val (.int qq), .unset, .unset, .unset, .unset, .unset, .unset, .unset, .unset, .unset, .unset, .unset] [(.int (67 : Int32)), (.int (18 : Int32)), (.ref b4), (.ref b4)])) rfl rfl (hb hby at_178)
  refine own_go st23 ?_
  have N23 := Fr.snoc X23 N22 g_b4
  have Z23 : n0 ≤ h23.size := Nat.le_trans Z22 (Keep.of_wr W23).1
  have KK23 := KK22.wr W23 (Or.inr sz_b4)
  have kz23 := Nat.le_trans kz22 (Keep.of_wr W23).1
  refine own_go (T' := T23) (f' := (mkF m 184 #[.val (.int p0), .val (.int p1), .val (.int p2), .val (.int p3), .val (.int p4), .val (.int p5), .val (.int fr), .val (.int wt), .val (.int hd), .val (.int ld), .val (.int pp), .val (.int qq), .unset, .unset, .unset, .unset, .unset, .unset, .unset, .unset, .unset, .unset, .unset] [(.int (68 : Int32)), (.int (19 : Int32)), (.ref b4), (.ref b4)])) (fun t kt => ?_) ?_
  · show Steps p.tables e below (T23.setTop (mkF m 179 #[.val (.int p0), .val (.int p1), .val (.int p2), .val (.int p3), .val (.int p4), .val (.int p5), .val (.int fr), .val (.int wt), .val (.int hd), .val (.int ld), .val (.int pp), .val (.int qq), .unset, .unset, .unset, .unset, .unset, .unset, .unset, .unset, .unset, .unset, .unset] [(.ref b4)])) t
    refine XS.dup X23.here hx rfl (hb hby at_179) rfl rfl ?_
    show Steps p.tables e below (T23.setTop (mkF m 180 #[.val (.int p0), .val (.int p1), .val (.int p2), .val (.int p3), .val (.int p4), .val (.int p5), .val (.int fr), .val (.int wt), .val (.int hd), .val (.int ld), .val (.int pp), .val (.int qq), .unset, .unset, .unset, .unset, .unset, .unset, .unset, .unset, .unset, .unset, .unset] [(.ref b4), (.ref b4)])) t
    refine XS.bipush X23.here hx rfl (hb hby at_180) ?_
    show Steps p.tables e below (T23.setTop (mkF m 182 #[.val (.int p0), .val (.int p1), .val (.int p2), .val (.int p3), .val (.int p4), .val (.int p5), .val (.int fr), .val (.int wt), .val (.int hd), .val (.int ld), .val (.int pp), .val (.int qq), .unset, .unset, .unset, .unset, .unset, .unset, .unset, .unset, .unset, .unset, .unset] [(.int (19 : Int32)), (.ref b4), (.ref b4)])) t
    refine XS.bipush X23.here hx rfl (hb hby at_182) ?_
    show Steps p.tables e below (T23.setTop (mkF m 184 #[.val (.int p0), .val (.int p1), .val (.int p2), .val (.int p3), .val (.int p4), .val (.int p5), .val (.int fr), .val (.int wt), .val (.int hd), .val (.int ld), .val (.int pp), .val (.int qq), .unset, .unset, .unset, .unset, .unset, .unset, .unset, .unset, .unset, .unset, .unset] [(.int (68 : Int32)), (.int (19 : Int32)), (.ref b4), (.ref b4)])) t
    exact kt
  obtain ⟨T24, h24, X24, e24, W24, B24, st24⟩ := own_bastore X23 hx hZ e23 B23 (i := 19) (by decide) (by decide) (g := (mkF m 184 #[.val (.int p0), .val (.int p1), .val (.int p2), .val (.int p3), .val (.int p4), .val (.int p5), .val (.int fr), .val (.int wt), .val (.int hd), .val (.int ld), .val (.int pp), .val (.int qq), .unset, .unset, .unset, .unset, .unset, .unset, .unset, .unset, .unset, .unset, .unset] [(.int (68 : Int32)), (.int (19 : Int32)), (.ref b4), (.ref b4)])) rfl rfl (hb hby at_184)
  refine own_go st24 ?_
  have N24 := Fr.snoc X24 N23 g_b4
  have Z24 : n0 ≤ h24.size := Nat.le_trans Z23 (Keep.of_wr W24).1
  have KK24 := KK23.wr W24 (Or.inr sz_b4)
  have kz24 := Nat.le_trans kz23 (Keep.of_wr W24).1
  refine own_go (T' := T24) (f' := (mkF m 190 #[.val (.int p0), .val (.int p1), .val (.int p2), .val (.int p3), .val (.int p4), .val (.int p5), .val (.int fr), .val (.int wt), .val (.int hd), .val (.int ld), .val (.int pp), .val (.int qq), .unset, .unset, .unset, .unset, .unset, .unset, .unset, .unset, .unset, .unset, .unset] [(.int (69 : Int32)), (.int (20 : Int32)), (.ref b4), (.ref b4)])) (fun t kt => ?_) ?_
  · show Steps p.tables e below (T24.setTop (mkF m 185 #[.val (.int p0), .val (.int p1), .val (.int p2), .val (.int p3), .val (.int p4), .val (.int p5), .val (.int fr), .val (.int wt), .val (.int hd), .val (.int ld), .val (.int pp), .val (.int qq), .unset, .unset, .unset, .unset, .unset, .unset, .unset, .unset, .unset, .unset, .unset] [(.ref b4)])) t
    refine XS.dup X24.here hx rfl (hb hby at_185) rfl rfl ?_
    show Steps p.tables e below (T24.setTop (mkF m 186 #[.val (.int p0), .val (.int p1), .val (.int p2), .val (.int p3), .val (.int p4), .val (.int p5), .val (.int fr), .val (.int wt), .val (.int hd), .val (.int ld), .val (.int pp), .val (.int qq), .unset, .unset, .unset, .unset, .unset, .unset, .unset, .unset, .unset, .unset, .unset] [(.ref b4), (.ref b4)])) t
    refine XS.bipush X24.here hx rfl (hb hby at_186) ?_
    show Steps p.tables e below (T24.setTop (mkF m 188 #[.val (.int p0), .val (.int p1), .val (.int p2), .val (.int p3), .val (.int p4), .val (.int p5), .val (.int fr), .val (.int wt), .val (.int hd), .val (.int ld), .val (.int pp), .val (.int qq), .unset, .unset, .unset, .unset, .unset, .unset, .unset, .unset, .unset, .unset, .unset] [(.int (20 : Int32)), (.ref b4), (.ref b4)])) t
    refine XS.bipush X24.here hx rfl (hb hby at_188) ?_
    show Steps p.tables e below (T24.setTop (mkF m 190 #[.val (.int p0), .val (.int p1), .val (.int p2), .val (.int p3), .val (.int p4), .val (.int p5), .val (.int fr), .val (.int wt), .val (.int hd), .val (.int ld), .val (.int pp), .val (.int qq), .unset, .unset, .unset, .unset, .unset, .unset, .unset, .unset, .unset, .unset, .unset] [(.int (69 : Int32)), (.int (20 : Int32)), (.ref b4), (.ref b4)])) t
    exact kt
  obtain ⟨T25, h25, X25, e25, W25, B25, st25⟩ := own_bastore X24 hx hZ e24 B24 (i := 20) (by decide) (by decide) (g := (mkF m 190 #[.val (.int p0), .val (.int p1), .val (.int p2), .val (.int p3), .val (.int p4), .val (.int p5), .val (.int fr), .val (.int wt), .val (.int hd), .val (.int ld), .val (.int pp), .val (.int qq), .unset, .unset, .unset, .unset, .unset, .unset, .unset, .unset, .unset, .unset, .unset] [(.int (69 : Int32)), (.int (20 : Int32)), (.ref b4), (.ref b4)])) rfl rfl (hb hby at_190)
  refine own_go st25 ?_
  have N25 := Fr.snoc X25 N24 g_b4
  have Z25 : n0 ≤ h25.size := Nat.le_trans Z24 (Keep.of_wr W25).1
  have KK25 := KK24.wr W25 (Or.inr sz_b4)
  have kz25 := Nat.le_trans kz24 (Keep.of_wr W25).1
  refine own_go (T' := T25) (f' := (mkF m 196 #[.val (.int p0), .val (.int p1), .val (.int p2), .val (.int p3), .val (.int p4), .val (.int p5), .val (.int fr), .val (.int wt), .val (.int hd), .val (.int ld), .val (.int pp), .val (.int qq), .unset, .unset, .unset, .unset, .unset, .unset, .unset, .unset, .unset, .unset, .unset] [(.int (70 : Int32)), (.int (21 : Int32)), (.ref b4), (.ref b4)])) (fun t kt => ?_) ?_
  · show Steps p.tables e below (T25.setTop (mkF m 191 #[.val (.int p0), .val (.int p1), .val (.int p2), .val (.int p3), .val (.int p4), .val (.int p5), .val (.int fr), .val (.int wt), .val (.int hd), .val (.int ld), .val (.int pp), .val (.int qq), .unset, .unset, .unset, .unset, .unset, .unset, .unset, .unset, .unset, .unset, .unset] [(.ref b4)])) t
    refine XS.dup X25.here hx rfl (hb hby at_191) rfl rfl ?_
    show Steps p.tables e below (T25.setTop (mkF m 192 #[.val (.int p0), .val (.int p1), .val (.int p2), .val (.int p3), .val (.int p4), .val (.int p5), .val (.int fr), .val (.int wt), .val (.int hd), .val (.int ld), .val (.int pp), .val (.int qq), .unset, .unset, .unset, .unset, .unset, .unset, .unset, .unset, .unset, .unset, .unset] [(.ref b4), (.ref b4)])) t
    refine XS.bipush X25.here hx rfl (hb hby at_192) ?_
    show Steps p.tables e below (T25.setTop (mkF m 194 #[.val (.int p0), .val (.int p1), .val (.int p2), .val (.int p3), .val (.int p4), .val (.int p5), .val (.int fr), .val (.int wt), .val (.int hd), .val (.int ld), .val (.int pp), .val (.int qq), .unset, .unset, .unset, .unset, .unset, .unset, .unset, .unset, .unset, .unset, .unset] [(.int (21 : Int32)), (.ref b4), (.ref b4)])) t
    refine XS.bipush X25.here hx rfl (hb hby at_194) ?_
    show Steps p.tables e below (T25.setTop (mkF m 196 #[.val (.int p0), .val (.int p1), .val (.int p2), .val (.int p3), .val (.int p4), .val (.int p5), .val (.int fr), .val (.int wt), .val (.int hd), .val (.int ld), .val (.int pp), .val (.int qq), .unset, .unset, .unset, .unset, .unset, .unset, .unset, .unset, .unset, .unset, .unset] [(.int (70 : Int32)), (.int (21 : Int32)), (.ref b4), (.ref b4)])) t
    exact kt
  obtain ⟨T26, h26, X26, e26, W26, B26, st26⟩ := own_bastore X25 hx hZ e25 B25 (i := 21) (by decide) (by decide) (g := (mkF m 196 #[.val (.int p0), .val (.int p1), .val (.int p2), .val (.int p3), .val (.int p4), .val (.int p5), .val (.int fr), .val (.int wt), .val (.int hd), .val (.int ld), .val (.int pp), .val (.int qq), .unset, .unset, .unset, .unset, .unset, .unset, .unset, .unset, .unset, .unset, .unset] [(.int (70 : Int32)), (.int (21 : Int32)), (.ref b4), (.ref b4)])) rfl rfl (hb hby at_196)
  refine own_go st26 ?_
  have N26 := Fr.snoc X26 N25 g_b4
  have Z26 : n0 ≤ h26.size := Nat.le_trans Z25 (Keep.of_wr W26).1
  have KK26 := KK25.wr W26 (Or.inr sz_b4)
  have kz26 := Nat.le_trans kz25 (Keep.of_wr W26).1
  refine own_go (T' := T26) (f' := (mkF m 202 #[.val (.int p0), .val (.int p1), .val (.int p2), .val (.int p3), .val (.int p4), .val (.int p5), .val (.int fr), .val (.int wt), .val (.int hd), .val (.int ld), .val (.int pp), .val (.int qq), .unset, .unset, .unset, .unset, .unset, .unset, .unset, .unset, .unset, .unset, .unset] [(.int (48 : Int32)), (.int (22 : Int32)), (.ref b4), (.ref b4)])) (fun t kt => ?_) ?_
  · show Steps p.tables e below (T26.setTop (mkF m 197 #[.val (.int p0), .val (.int p1), .val (.int p2), .val (.int p3), .val (.int p4), .val (.int p5), .val (.int fr), .val (.int wt), .val (.int hd), .val (.int ld), .val (.int pp), .val (.int qq), .unset, .unset, .unset, .unset, .unset, .unset, .unset, .unset, .unset, .unset, .unset] [(.ref b4)])) t
    refine XS.dup X26.here hx rfl (hb hby at_197) rfl rfl ?_
    show Steps p.tables e below (T26.setTop (mkF m 198 #[.val (.int p0), .val (.int p1), .val (.int p2), .val (.int p3), .val (.int p4), .val (.int p5), .val (.int fr), .val (.int wt), .val (.int hd), .val (.int ld), .val (.int pp), .val (.int qq), .unset, .unset, .unset, .unset, .unset, .unset, .unset, .unset, .unset, .unset, .unset] [(.ref b4), (.ref b4)])) t
    refine XS.bipush X26.here hx rfl (hb hby at_198) ?_
    show Steps p.tables e below (T26.setTop (mkF m 200 #[.val (.int p0), .val (.int p1), .val (.int p2), .val (.int p3), .val (.int p4), .val (.int p5), .val (.int fr), .val (.int wt), .val (.int hd), .val (.int ld), .val (.int pp), .val (.int qq), .unset, .unset, .unset, .unset, .unset, .unset, .unset, .unset, .unset, .unset, .unset] [(.int (22 : Int32)), (.ref b4), (.ref b4)])) t
    refine XS.bipush X26.here hx rfl (hb hby at_200) ?_
    show Steps p.tables e below (T26.setTop (mkF m 202 #[.val (.int p0), .val (.int p1), .val (.int p2), .val (.int p3), .val (.int p4), .val (.int p5), .val (.int fr), .val (.int wt), .val (.int hd), .val (.int ld), .val (.int pp), .val (.int qq), .unset, .unset, .unset, .unset, .unset, .unset, .unset, .unset, .unset, .unset, .unset] [(.int (48 : Int32)), (.int (22 : Int32)), (.ref b4), (.ref b4)])) t
    exact kt
  obtain ⟨T27, h27, X27, e27, W27, B27, st27⟩ := own_bastore X26 hx hZ e26 B26 (i := 22) (by decide) (by decide) (g := (mkF m 202 #[.val (.int p0), .val (.int p1), .val (.int p2), .val (.int p3), .val (.int p4), .val (.int p5), .val (.int fr), .val (.int wt), .val (.int hd), .val (.int ld), .val (.int pp), .val (.int qq), .unset, .unset, .unset, .unset, .unset, .unset, .unset, .unset, .unset, .unset, .unset] [(.int (48 : Int32)), (.int (22 : Int32)), (.ref b4), (.ref b4)])) rfl rfl (hb hby at_202)
  refine own_go st27 ?_
  have N27 := Fr.snoc X27 N26 g_b4
  have Z27 : n0 ≤ h27.size := Nat.le_trans Z26 (Keep.of_wr W27).1
  have KK27 := KK26.wr W27 (Or.inr sz_b4)
  have kz27 := Nat.le_trans kz26 (Keep.of_wr W27).1
  refine own_go (T' := T27) (f' := (mkF m 208 #[.val (.int p0), .val (.int p1), .val (.int p2), .val (.int p3), .val (.int p4), .val (.int p5), .val (.int fr), .val (.int wt), .val (.int hd), .val (.int ld), .val (.int pp), .val (.int qq), .unset, .unset, .unset, .unset, .unset, .unset, .unset, .unset, .unset, .unset, .unset] [(.int (49 : Int32)), (.int (23 : Int32)), (.ref b4), (.ref b4)])) (fun t kt => ?_) ?_
  · show Steps p.tables e below (T27.setTop (mkF m 203 #[.val (.int p0), .val (.int p1), .val (.int p2), .val (.int p3), .val (.int p4), .val (.int p5), .val (.int fr), .val (.int wt), .val (.int hd), .val (.int ld), .val (.int pp), .val (.int qq), .unset, .unset, .unset, .unset, .unset, .unset, .unset, .unset, .unset, .unset, .unset] [(.ref b4)])) t
    refine XS.dup X27.here hx rfl (hb hby at_203) rfl rfl ?_
    show Steps p.tables e below (T27.setTop (mkF m 204 #[.val (.int p0), .val (.int p1), .val (.int p2), .val (.int p3), .val (.int p4), .val (.int p5), .val (.int fr), .val (.int wt), .val (.int hd), .val (.int ld), .val (.int pp), .val (.int qq), .unset, .unset, .unset, .unset, .unset, .unset, .unset, .unset, .unset, .unset, .unset] [(.ref b4), (.ref b4)])) t
    refine XS.bipush X27.here hx rfl (hb hby at_204) ?_
    show Steps p.tables e below (T27.setTop (mkF m 206 #[.val (.int p0), .val (.int p1), .val (.int p2), .val (.int p3), .val (.int p4), .val (.int p5), .val (.int fr), .val (.int wt), .val (.int hd), .val (.int ld), .val (.int pp), .val (.int qq), .unset, .unset, .unset, .unset, .unset, .unset, .unset, .unset, .unset, .unset, .unset] [(.int (23 : Int32)), (.ref b4), (.ref b4)])) t
    refine XS.bipush X27.here hx rfl (hb hby at_206) ?_
    show Steps p.tables e below (T27.setTop (mkF m 208 #[.val (.int p0), .val (.int p1), .val (.int p2), .val (.int p3), .val (.int p4), .val (.int p5), .val (.int fr), .val (.int wt), .val (.int hd), .val (.int ld), .val (.int pp), .val (.int qq), .unset, .unset, .unset, .unset, .unset, .unset, .unset, .unset, .unset, .unset, .unset] [(.int (49 : Int32)), (.int (23 : Int32)), (.ref b4), (.ref b4)])) t
    exact kt
  obtain ⟨T28, h28, X28, e28, W28, B28, st28⟩ := own_bastore X27 hx hZ e27 B27 (i := 23) (by decide) (by decide) (g := (mkF m 208 #[.val (.int p0), .val (.int p1), .val (.int p2), .val (.int p3), .val (.int p4), .val (.int p5), .val (.int fr), .val (.int wt), .val (.int hd), .val (.int ld), .val (.int pp), .val (.int qq), .unset, .unset, .unset, .unset, .unset, .unset, .unset, .unset, .unset, .unset, .unset] [(.int (49 : Int32)), (.int (23 : Int32)), (.ref b4), (.ref b4)])) rfl rfl (hb hby at_208)
  refine own_go st28 ?_
  have N28 := Fr.snoc X28 N27 g_b4
  have Z28 : n0 ≤ h28.size := Nat.le_trans Z27 (Keep.of_wr W28).1
  have KK28 := KK27.wr W28 (Or.inr sz_b4)
  have kz28 := Nat.le_trans kz27 (Keep.of_wr W28).1
  refine own_go (T' := T28) (f' := (mkF m 214 #[.val (.int p0), .val (.int p1), .val (.int p2), .val (.int p3), .val (.int p4), .val (.int p5), .val (.int fr), .val (.int wt), .val (.int hd), .val (.int ld), .val (.int pp), .val (.int qq), .unset, .unset, .unset, .unset, .unset, .unset, .unset, .unset, .unset, .unset, .unset] [(.int (50 : Int32)), (.int (24 : Int32)), (.ref b4), (.ref b4)])) (fun t kt => ?_) ?_
  · show Steps p.tables e below (T28.setTop (mkF m 209 #[.val (.int p0), .val (.int p1), .val (.int p2), .val (.int p3), .val (.int p4), .val (.int p5), .val (.int fr), .val (.int wt), .val (.int hd), .val (.int ld), .val (.int pp), .val (.int qq), .unset, .unset, .unset, .unset, .unset, .unset, .unset, .unset, .unset, .unset, .unset] [(.ref b4)])) t
    refine XS.dup X28.here hx rfl (hb hby at_209) rfl rfl ?_
    show Steps p.tables e below (T28.setTop (mkF m 210 #[.val (.int p0), .val (.int p1), .val (.int p2), .val (.int p3), .val (.int p4), .val (.int p5), .val (.int fr), .val (.int wt), .val (.int hd), .val (.int ld), .val (.int pp), .val (.int qq), .unset, .unset, .unset, .unset, .unset, .unset, .unset, .unset, .unset, .unset, .unset] [(.ref b4), (.ref b4)])) t
    refine XS.bipush X28.here hx rfl (hb hby at_210) ?_
    show Steps p.tables e below (T28.setTop (mkF m 212 #[.val (.int p0), .val (.int p1), .val (.int p2), .val (.int p3), .val (.int p4), .val (.int p5), .val (.int fr), .val (.int wt), .val (.int hd), .val (.int ld), .val (.int pp), .val (.int qq), .unset, .unset, .unset, .unset, .unset, .unset, .unset, .unset, .unset, .unset, .unset] [(.int (24 : Int32)), (.ref b4), (.ref b4)])) t
    refine XS.bipush X28.here hx rfl (hb hby at_212) ?_
    show Steps p.tables e below (T28.setTop (mkF m 214 #[.val (.int p0), .val (.int p1), .val (.int p2), .val (.int p3), .val (.int p4), .val (.int p5), .val (.int fr), .val (.int wt), .val (.int hd), .val (.int ld), .val (.int pp), .val (.int qq), .unset, .unset, .unset, .unset, .unset, .unset, .unset, .unset, .unset, .unset, .unset] [(.int (50 : Int32)), (.int (24 : Int32)), (.ref b4), (.ref b4)])) t
    exact kt
  obtain ⟨T29, h29, X29, e29, W29, B29, st29⟩ := own_bastore X28 hx hZ e28 B28 (i := 24) (by decide) (by decide) (g := (mkF m 214 #[.val (.int p0), .val (.int p1), .val (.int p2), .val (.int p3), .val (.int p4), .val (.int p5), .val (.int fr), .val (.int wt), .val (.int hd), .val (.int ld), .val (.int pp), .val (.int qq), .unset, .unset, .unset, .unset, .unset, .unset, .unset, .unset, .unset, .unset, .unset] [(.int (50 : Int32)), (.int (24 : Int32)), (.ref b4), (.ref b4)])) rfl rfl (hb hby at_214)
  refine own_go st29 ?_
  have N29 := Fr.snoc X29 N28 g_b4
  have Z29 : n0 ≤ h29.size := Nat.le_trans Z28 (Keep.of_wr W29).1
  have KK29 := KK28.wr W29 (Or.inr sz_b4)
  have kz29 := Nat.le_trans kz28 (Keep.of_wr W29).1
  refine own_go (T' := T29) (f' := (mkF m 220 #[.val (.int p0), .val (.int p1), .val (.int p2), .val (.int p3), .val (.int p4), .val (.int p5), .val (.int fr), .val (.int wt), .val (.int hd), .val (.int ld), .val (.int pp), .val (.int qq), .unset, .unset, .unset, .unset, .unset, .unset, .unset, .unset, .unset, .unset, .unset] [(.int (51 : Int32)), (.int (25 : Int32)), (.ref b4), (.ref b4)])) (fun t kt => ?_) ?_
  · show Steps p.tables e below (T29.setTop (mkF m 215 #[.val (.int p0), .val (.int p1), .val (.int p2), .val (.int p3), .val (.int p4), .val (.int p5), .val (.int fr), .val (.int wt), .val (.int hd), .val (.int ld), .val (.int pp), .val (.int qq), .unset, .unset, .unset, .unset, .unset, .unset, .unset, .unset, .unset, .unset, .unset] [(.ref b4)])) t
    refine XS.dup X29.here hx rfl (hb hby at_215) rfl rfl ?_
    show Steps p.tables e below (T29.setTop (mkF m 216 #[.val (.int p0), .val (.int p1), .val (.int p2), .val (.int p3), .val (.int p4), .val (.int p5), .val (.int fr), .val (.int wt), .val (.int hd), .val (.int ld), .val (.int pp), .val (.int qq), .unset, .unset, .unset, .unset, .unset, .unset, .unset, .unset, .unset, .unset, .unset] [(.ref b4), (.ref b4)])) t
    refine XS.bipush X29.here hx rfl (hb hby at_216) ?_
    show Steps p.tables e below (T29.setTop (mkF m 218 #[.val (.int p0), .val (.int p1), .val (.int p2), .val (.int p3), .val (.int p4), .val (.int p5), .val (.int fr), .val (.int wt), .val (.int hd), .val (.int ld), .val (.int pp), .val (.int qq), .unset, .unset, .unset, .unset, .unset, .unset, .unset, .unset, .unset, .unset, .unset] [(.int (25 : Int32)), (.ref b4), (.ref b4)])) t
    refine XS.bipush X29.here hx rfl (hb hby at_218) ?_
    show Steps p.tables e below (T29.setTop (mkF m 220 #[.val (.int p0), .val (.int p1), .val (.int p2), .val (.int p3), .val (.int p4), .val (.int p5), .val (.int fr), .val (.int wt), .val (.int hd), .val (.int ld), .val (.int pp), .val (.int qq), .unset, .unset, .unset, .unset, .unset, .unset, .unset, .unset, .unset, .unset, .unset] [(.int (51 : Int32)), (.int (25 : Int32)), (.ref b4), (.ref b4)])) t
    exact kt
  obtain ⟨T30, h30, X30, e30, W30, B30, st30⟩ := own_bastore X29 hx hZ e29 B29 (i := 25) (by decide) (by decide) (g := (mkF m 220 #[.val (.int p0), .val (.int p1), .val (.int p2), .val (.int p3), .val (.int p4), .val (.int p5), .val (.int fr), .val (.int wt), .val (.int hd), .val (.int ld), .val (.int pp), .val (.int qq), .unset, .unset, .unset, .unset, .unset, .unset, .unset, .unset, .unset, .unset, .unset] [(.int (51 : Int32)), (.int (25 : Int32)), (.ref b4), (.ref b4)])) rfl rfl (hb hby at_220)
  refine own_go st30 ?_
  have N30 := Fr.snoc X30 N29 g_b4
  have Z30 : n0 ≤ h30.size := Nat.le_trans Z29 (Keep.of_wr W30).1
  have KK30 := KK29.wr W30 (Or.inr sz_b4)
  have kz30 := Nat.le_trans kz29 (Keep.of_wr W30).1
  refine own_go (T' := T30) (f' := (mkF m 226 #[.val (.int p0), .val (.int p1), .val (.int p2), .val (.int p3), .val (.int p4), .val (.int p5), .val (.int fr), .val (.int wt), .val (.int hd), .val (.int ld), .val (.int pp), .val (.int qq), .unset, .unset, .unset, .unset, .unset, .unset, .unset, .unset, .unset, .unset, .unset] [(.int (52 : Int32)), (.int (26 : Int32)), (.ref b4), (.ref b4)])) (fun t kt => ?_) ?_
  · show Steps p.tables e below (T30.setTop (mkF m 221 #[.val (.int p0), .val (.int p1), .val (.int p2), .val (.int p3), .val (.int p4), .val (.int p5), .val (.int fr), .val (.int wt), .val (.int hd), .val (.int ld), .val (.int pp), .val (.int qq), .unset, .unset, .unset, .unset, .unset, .unset, .unset, .unset, .unset, .unset, .unset] [(.ref b4)])) t
    refine XS.dup X30.here hx rfl (hb hby at_221) rfl rfl ?_
    show Steps p.tables e below (T30.setTop (mkF m 222 #[.val (.int p0), .val (.int p1), .val (.int p2), .val (.int p3), .val (.int p4), .val (.int p5), .val (.int fr), .val (.int wt), .val (.int hd), .val (.int ld), .val (.int pp), .val (.int qq), .unset, .unset, .unset, .unset, .unset, .unset, .unset, .unset, .unset, .unset, .unset] [(.ref b4), (.ref b4)])) t
    refine XS.bipush X30.here hx rfl (hb hby at_222) ?_
    show Steps p.tables e below (T30.setTop (mkF m 224 #[.val (.int p0), .val (.int p1), .val (.int p2), .val (.int p3), .val (.int p4), .val (.int p5), .val (.int fr), .val (.int wt), .val (.int hd), .val (.int ld), .val (.int pp), .val (.int qq), .unset, .unset, .unset, .unset, .unset, .unset, .unset, .unset, .unset, .unset, .unset] [(.int (26 : Int32)), (.ref b4), (.ref b4)])) t
    refine XS.bipush X30.here hx rfl (hb hby at_224) ?_
    show Steps p.tables e below (T30.setTop (mkF m 226 #[.val (.int p0), .val (.int p1), .val (.int p2), .val (.int p3), .val (.int p4), .val (.int p5), .val (.int fr), .val (.int wt), .val (.int hd), .val (.int ld), .val (.int pp), .val (.int qq), .unset, .unset, .unset, .unset, .unset, .unset, .unset, .unset, .unset, .unset, .unset] [(.int (52 : Int32)), (.int (26 : Int32)), (.ref b4), (.ref b4)])) t
    exact kt
  obtain ⟨T31, h31, X31, e31, W31, B31, st31⟩ := own_bastore X30 hx hZ e30 B30 (i := 26) (by decide) (by decide) (g := (mkF m 226 #[.val (.int p0), .val (.int p1), .val (.int p2), .val (.int p3), .val (.int p4), .val (.int p5), .val (.int fr), .val (.int wt), .val (.int hd), .val (.int ld), .val (.int pp), .val (.int qq), .unset, .unset, .unset, .unset, .unset, .unset, .unset, .unset, .unset, .unset, .unset] [(.int (52 : Int32)), (.int (26 : Int32)), (.ref b4), (.ref b4)])) rfl rfl (hb hby at_226)
  refine own_go st31 ?_
  have N31 := Fr.snoc X31 N30 g_b4
  have Z31 : n0 ≤ h31.size := Nat.le_trans Z30 (Keep.of_wr W31).1
  have KK31 := KK30.wr W31 (Or.inr sz_b4)
  have kz31 := Nat.le_trans kz30 (Keep.of_wr W31).1
  refine own_go (T' := T31) (f' := (mkF m 232 #[.val (.int p0), .val (.int p1), .val (.int p2), .val (.int p3), .val (.int p4), .val (.int p5), .val (.int fr), .val (.int wt), .val (.int hd), .val (.int ld), .val (.int pp), .val (.int qq), .unset, .unset, .unset, .unset, .unset, .unset, .unset, .unset, .unset, .unset, .unset] [(.int (53 : Int32)), (.int (27 : Int32)), (.ref b4), (.ref b4)])) (fun t kt => ?_) ?_
  · show Steps p.tables e below (T31.setTop (mkF m 227 #[.val (.int p0), .val (.int p1), .val (.int p2), .val (.int p3), .val (.int p4), .val (.int p5), .val (.int fr), .val (.int wt), .val (.int hd), .val (.int ld), .val (.int pp), .val (.int qq), .unset, .unset, .unset, .unset, .unset, .unset, .unset, .unset, .unset, .unset, .unset] [(.ref b4)])) t
    refine XS.dup X31.here hx rfl (hb hby at_227) rfl rfl ?_
    show Steps p.tables e below (T31.setTop (mkF m 228 #[.val (.int p0), .val (.int p1), .val (.int p2), .val (.int p3), .val (.int p4), .val (.int p5), .val (.int fr), .val (.int wt), .val (.int hd), .val (.int ld), .val (.int pp), .val (.int qq), .unset, .unset, .unset, .unset, .unset, .unset, .unset, .unset, .unset, .unset, .unset] [(.ref b4), (.ref b4)])) t
    refine XS.bipush X31.here hx rfl (hb hby at_228) ?_
    show Steps p.tables e below (T31.setTop (mkF m 230 #[.val (.int p0), .val (.int p1), .val (.int p2), .val (.int p3), .val (.int p4), .val (.int p5), .val (.int fr), .val (.int wt), .val (.int hd), .val (.int ld), .val (.int pp), .val (.int qq), .unset, .unset, .unset, .unset, .unset, .unset, .unset, .unset, .unset, .unset, .unset] [(.int (27 : Int32)), (.ref b4), (.ref b4)])) t
    refine XS.bipush X31.here hx rfl (hb hby at_230) ?_
    show Steps p.tables e below (T31.setTop (mkF m 232 #[.val (.int p0), .val (.int p1), .val (.int p2), .val (.int p3), .val (.int p4), .val (.int p5), .val (.int fr), .val (.int wt), .val (.int hd), .val (.int ld), .val (.int pp), .val (.int qq), .unset, .unset, .unset, .unset, .unset, .unset, .unset, .unset, .unset, .unset, .unset] [(.int (53 : Int32)), (.int (27 : Int32)), (.ref b4), (.ref b4)])) t
    exact kt
  obtain ⟨T32, h32, X32, e32, W32, B32, st32⟩ := own_bastore X31 hx hZ e31 B31 (i := 27) (by decide) (by decide) (g := (mkF m 232 #[.val (.int p0), .val (.int p1), .val (.int p2), .val (.int p3), .val (.int p4), .val (.int p5), .val (.int fr), .val (.int wt), .val (.int hd), .val (.int ld), .val (.int pp), .val (.int qq), .unset, .unset, .unset, .unset, .unset, .unset, .unset, .unset, .unset, .unset, .unset] [(.int (53 : Int32)), (.int (27 : Int32)), (.ref b4), (.ref b4)])) rfl rfl (hb hby at_232)
  refine own_go st32 ?_
  have N32 := Fr.snoc X32 N31 g_b4
  have Z32 : n0 ≤ h32.size := Nat.le_trans Z31 (Keep.of_wr W32).1
  have KK32 := KK31.wr W32 (Or.inr sz_b4)
  have kz32 := Nat.le_trans kz31 (Keep.of_wr W32).1
  refine own_go (T' := T32) (f' := (mkF m 238 #[.val (.int p0), .val (.int p1), .val (.int p2), .val (.int p3), .val (.int p4), .val (.int p5), .val (.int fr), .val (.int wt), .val (.int hd), .val (.int ld), .val (.int pp), .val (.int qq), .unset, .unset, .unset, .unset, .unset, .unset, .unset, .unset, .unset, .unset, .unset] [(.int (54 : Int32)), (.int (28 : Int32)), (.ref b4), (.ref b4)])) (fun t kt => ?_) ?_
  · show Steps p.tables e below (T32.setTop (mkF m 233 #[.val (.int p0), .val (.int p1), .val (.int p2), .val (.int p3), .val (.int p4), .val (.int p5), .val (.int fr), .val (.int wt), .val (.int hd), .val (.int ld), .val (.int pp), .val (.int qq), .unset, .unset, .unset, .unset, .unset, .unset, .unset, .unset, .unset, .unset, .unset] [(.ref b4)])) t
    refine XS.dup X32.here hx rfl (hb hby at_233) rfl rfl ?_
    show Steps p.tables e below (T32.setTop (mkF m 234 #[.val (.int p0), .val (.int p1), .val (.int p2), .val (.int p3), .val (.int p4), .val (.int p5), .val (.int fr), .val (.int wt), .val (.int hd), .val (.int ld), .val (.int pp), .val (.int qq), .unset, .unset, .unset, .unset, .unset, .unset, .unset, .unset, .unset, .unset, .unset] [(.ref b4), (.ref b4)])) t
    refine XS.bipush X32.here hx rfl (hb hby at_234) ?_
    show Steps p.tables e below (T32.setTop (mkF m 236 #[.val (.int p0), .val (.int p1), .val (.int p2), .val (.int p3), .val (.int p4), .val (.int p5), .val (.int fr), .val (.int wt), .val (.int hd), .val (.int ld), .val (.int pp), .val (.int qq), .unset, .unset, .unset, .unset, .unset, .unset, .unset, .unset, .unset, .unset, .unset] [(.int (28 : Int32)), (.ref b4), (.ref b4)])) t
    refine XS.bipush X32.here hx rfl (hb hby at_236) ?_
    show Steps p.tables e below (T32.setTop (mkF m 238 #[.val (.int p0), .val (.int p1), .val (.int p2), .val (.int p3), .val (.int p4), .val (.int p5), .val (.int fr), .val (.int wt), .val (.int hd), .val (.int ld), .val (.int pp), .val (.int qq), .unset, .unset, .unset, .unset, .unset, .unset, .unset, .unset, .unset, .unset, .unset] [(.int (54 : Int32)), (.int (28 : Int32)), (.ref b4), (.ref b4)])) t
    exact kt
  obtain ⟨T33, h33, X33, e33, W33, B33, st33⟩ := own_bastore X32 hx hZ e32 B32 (i := 28) (by decide) (by decide) (g := (mkF m 238 #[.val (.int p0), .val (.int p1), .val (.int p2), .val (.int p3), .val (.int p4), .val (.int p5), .val (.int fr), .val (.int wt), .val (.int hd), .val (.int ld), .val (.int pp), .val (.int qq), .unset, .unset, .unset, .unset, .unset, .unset, .unset, .unset, .unset, .unset, .unset] [(.int (54 : Int32)), (.int (28 : Int32)), (.ref b4), (.ref b4)])) rfl rfl (hb hby at_238)
  refine own_go st33 ?_
  have N33 := Fr.snoc X33 N32 g_b4
  have Z33 : n0 ≤ h33.size := Nat.le_trans Z32 (Keep.of_wr W33).1
  have KK33 := KK32.wr W33 (Or.inr sz_b4)
  have kz33 := Nat.le_trans kz32 (Keep.of_wr W33).1
  refine own_go (T' := T33) (f' := (mkF m 244 #[.val (.int p0), .val (.int p1), .val (.int p2), .val (.int p3), .val (.int p4), .val (.int p5), .val (.int fr), .val (.int wt), .val (.int hd), .val (.int ld), .val (.int pp), .val (.int qq), .unset, .unset, .unset, .unset, .unset, .unset, .unset, .unset, .unset, .unset, .unset] [(.int (55 : Int32)), (.int (29 : Int32)), (.ref b4), (.ref b4)])) (fun t kt => ?_) ?_
  · show Steps p.tables e below (T33.setTop (mkF m 239 #[.val (.int p0), .val (.int p1), .val (.int p2), .val (.int p3), .val (.int p4), .val (.int p5), .val (.int fr), .val (.int wt), .val (.int hd), .val (.int ld), .val (.int pp), .val (.int qq), .unset, .unset, .unset, .unset, .unset, .unset, .unset, .unset, .unset, .unset, .unset] [(.ref b4)])) t
    refine XS.dup X33.here hx rfl (hb hby at_239) rfl rfl ?_
    show Steps p.tables e below (T33.setTop (mkF m 240 #[.val (.int p0), .val (.int p1), .val (.int p2), .val (.int p3), .val (.int p4), .val (.int p5), .val (.int fr), .val (.int wt), .val (.int hd), .val (.int ld), .val (.int pp), .val (.int qq), .unset, .unset, .unset, .unset, .unset, .unset, .unset, .unset, .unset, .unset, .unset] [(.ref b4), (.ref b4)])) t
    refine XS.bipush X33.here hx rfl (hb hby at_240) ?_
    show Steps p.tables e below (T33.setTop (mkF m 242 #[.val (.int p0), .val (.int p1), .val (.int p2), .val (.int p3), .val (.int p4), .val (.int p5), .val (.int fr), .val (.int wt), .val (.int hd), .val (.int ld), .val (.int pp), .val (.int qq), .unset, .unset, .unset, .unset, .unset, .unset, .unset, .unset, .unset, .unset, .unset] [(.int (29 : Int32)), (.ref b4), (.ref b4)])) t
    refine XS.bipush X33.here hx rfl (hb hby at_242) ?_
    show Steps p.tables e below (T33.setTop (mkF m 244 #[.val (.int p0), .val (.int p1), .val (.int p2), .val (.int p3), .val (.int p4), .val (.int p5), .val (.int fr), .val (.int wt), .val (.int hd), .val (.int ld), .val (.int pp), .val (.int qq), .unset, .unset, .unset, .unset, .unset, .unset, .unset, .unset, .unset, .unset, .unset] [(.int (55 : Int32)), (.int (29 : Int32)), (.ref b4), (.ref b4)])) t
    exact kt
  obtain ⟨T34, h34, X34, e34, W34, B34, st34⟩ := own_bastore X33 hx hZ e33 B33 (i := 29) (by decide) (by decide) (g := (mkF m 244 #[.val (.int p0), .val (.int p1), .val (.int p2), .val (.int p3), .val (.int p4), .val (.int p5), .val (.int fr), .val (.int wt), .val (.int hd), .val (.int ld), .val (.int pp), .val (.int qq), .unset, .unset, .unset, .unset, .unset, .unset, .unset, .unset, .unset, .unset, .unset] [(.int (55 : Int32)), (.int (29 : Int32)), (.ref b4), (.ref b4)])) rfl rfl (hb hby at_244)
  refine own_go st34 ?_
  have N34 := Fr.snoc X34 N33 g_b4
  have Z34 : n0 ≤ h34.size := Nat.le_trans Z33 (Keep.of_wr W34).1
  have KK34 := KK33.wr W34 (Or.inr sz_b4)
  have kz34 := Nat.le_trans kz33 (Keep.of_wr W34).1
  refine own_go (T' := T34) (f' := (mkF m 250 #[.val (.int p0), .val (.int p1), .val (.int p2), .val (.int p3), .val (.int p4), .val (.int p5), .val (.int fr), .val (.int wt), .val (.int hd), .val (.int ld), .val (.int pp), .val (.int qq), .unset, .unset, .unset, .unset, .unset, .unset, .unset, .unset, .unset, .unset, .unset] [(.int (56 : Int32)), (.int (30 : Int32)), (.ref b4), (.ref b4)])) (fun t kt => ?_) ?_
  · show Steps p.tables e below (T34.setTop (mkF m 245 #[.val (.int p0), .val (.int p1), .val (.int p2), .val (.int p3), .val (.int p4), .val (.int p5), .val (.int fr), .val (.int wt), .val (.int hd), .val (.int ld), .val (.int pp), .val (.int qq), .unset, .unset, .unset, .unset, .unset, .unset, .unset, .unset, .unset, .unset, .unset] [(.ref b4)])) t
    refine XS.dup X34.here hx rfl (hb hby at_245) rfl rfl ?_
    show Steps p.tables e below (T34.setTop (mkF m 246 #[.val (.int p0), .val (.int p1), .val (.int p2), .val (.int p3), .val (.int p4), .val (.int p5), .val (.int fr), .val (.int wt), .val (.int hd), .val (.int ld), .val (.int pp), .val (.int qq), .unset, .unset, .unset, .unset, .unset, .unset, .unset, .unset, .unset, .unset, .unset] [(.ref b4), (.ref b4)])) t
    refine XS.bipush X34.here hx rfl (hb hby at_246) ?_
    show Steps p.tables e below (T34.setTop (mkF m 248 #[.val (.int p0), .val (.int p1), .val (.int p2), .val (.int p3), .val (.int p4), .val (.int p5), .val (.int fr), .val (.int wt), .val (.int hd), .val (.int ld), .val (.int pp), .val (.int qq), .unset, .unset, .unset, .unset, .unset, .unset, .unset, .unset, .unset, .unset, .unset] [(.int (30 : Int32)), (.ref b4), (.ref b4)])) t
    refine XS.bipush X34.here hx rfl (hb hby at_248) ?_
    show Steps p.tables e below (T34.setTop (mkF m 250 #[.val (.int p0), .val (.int p1), .val (.int p2), .val (.int p3), .val (.int p4), .val (.int p5), .val (.int fr), .val (.int wt), .val (.int hd), .val (.int ld), .val (.int pp), .val (.int qq), .unset, .unset, .unset, .unset, .unset, .unset, .unset, .unset, .unset, .unset, .unset] [(.int (56 : Int32)), (.int (30 : Int32)), (.ref b4), (.ref b4)])) t
    exact kt
  obtain ⟨T35, h35, X35, e35, W35, B35, st35⟩ := own_bastore X34 hx hZ e34 B34 (i := 30) (by decide) (by decide) (g := (mkF m 250 #[.val (.int p0), .val (.int p1), .val (.int p2), .val (.int p3), .val (.int p4), .val (.int p5), .val (.int fr), .val (.int wt), .val (.int hd), .val (.int ld), .val (.int pp), .val (.int qq), .unset, .unset, .unset, .unset, .unset, .unset, .unset, .unset, .unset, .unset, .unset] [(.int (56 : Int32)), (.int (30 : Int32)), (.ref b4), (.ref b4)])) rfl rfl (hb hby at_250)
  refine own_go st35 ?_
  have N35 := Fr.snoc X35 N34 g_b4
  have Z35 : n0 ≤ h35.size := Nat.le_trans Z34 (Keep.of_wr W35).1
  have KK35 := KK34.wr W35 (Or.inr sz_b4)
  have kz35 := Nat.le_trans kz34 (Keep.of_wr W35).1
  refine own_go (T' := T35) (f' := (mkF m 256 #[.val (.int p0), .val (.int p1), .val (.int p2), .val (.int p3), .val (.int p4), .val (.int p5), .val (.int fr), .val (.int wt), .val (.int hd), .val (.int ld), .val (.int pp), .val (.int qq), .unset, .unset, .unset, .unset, .unset, .unset, .unset, .unset, .unset, .unset, .unset] [(.int (57 : Int32)), (.int (31 : Int32)), (.ref b4), (.ref b4)])) (fun t kt => ?_) ?_
  · show Steps p.tables e below (T35.setTop (mkF m 251 #[.val (.int p0), .val (.int p1), .val (.int p2), .val (.int p3), .val (.int p4), .val (.int p5), .val (.int fr), .val (.int wt), .val (.int hd), .val (.int ld), .val (.int pp), .val (.int qq), .unset, .unset, .unset, .unset, .unset, .unset, .unset, .unset, .unset, .unset, .unset] [(.ref b4)])) t
    refine XS.dup X35.here hx rfl (hb hby at_251) rfl rfl ?_
    show Steps p.tables e below (T35.setTop (mkF m 252 #[.val (.int p0), .val (.int p1), .val (.int p2), .val (.int p3), .val (.int p4), .val (.int p5), .val (.int fr), .val (.int wt), .val (.int hd), .val (.int ld), .val (.int pp), .val (.int qq), .unset, .unset, .unset, .unset, .unset, .unset, .unset, .unset, .unset, .unset, .unset] [(.ref b4), (.ref b4)])) t
    refine XS.bipush X35.here hx rfl (hb hby at_252) ?_
    show Steps p.tables e below (T35.setTop (mkF m 254 #[.val (.int p0), .val (.int p1), .val (.int p2), .val (.int p3), .val (.int p4), .val (.int p5), .val (.int fr), .val (.int wt), .val (.int hd), .val (.int ld), .val (.int pp), .val (.int qq), .unset, .unset, .unset, .unset, .unset, .unset, .unset, .unset, .unset, .unset, .unset] [(.int (31 : Int32)), (.ref b4), (.ref b4)])) t
    refine XS.bipush X35.here hx rfl (hb hby at_254) ?_
    show Steps p.tables e below (T35.setTop (mkF m 256 #[.val (.int p0), .val (.int p1), .val (.int p2), .val (.int p3), .val (.int p4), .val (.int p5), .val (.int fr), .val (.int wt), .val (.int hd), .val (.int ld), .val (.int pp), .val (.int qq), .unset, .unset, .unset, .unset, .unset, .unset, .unset, .unset, .unset, .unset, .unset] [(.int (57 : Int32)), (.int (31 : Int32)), (.ref b4), (.ref b4)])) t
    exact kt
  obtain ⟨T36, h36, X36, e36, W36, B36, st36⟩ := own_bastore X35 hx hZ e35 B35 (i := 31) (by decide) (by decide) (g := (mkF m 256 #[.val (.int p0), .val (.int p1), .val (.int p2), .val (.int p3), .val (.int p4), .val (.int p5), .val (.int fr), .val (.int wt), .val (.int hd), .val (.int ld), .val (.int pp), .val (.int qq), .unset, .unset, .unset, .unset, .unset, .unset, .unset, .unset, .unset, .unset, .unset] [(.int (57 : Int32)), (.int (31 : Int32)), (.ref b4), (.ref b4)])) rfl rfl (hb hby at_256)
  refine own_go st36 ?_
  have N36 := Fr.snoc X36 N35 g_b4
  have Z36 : n0 ≤ h36.size := Nat.le_trans Z35 (Keep.of_wr W36).1
  have KK36 := KK35.wr W36 (Or.inr sz_b4)
  have kz36 := Nat.le_trans kz35 (Keep.of_wr W36).1
  refine own_go (T' := T36) (f' := (mkF m 262 #[.val (.int p0), .val (.int p1), .val (.int p2), .val (.int p3), .val (.int p4), .val (.int p5), .val (.int fr), .val (.int wt), .val (.int hd), .val (.int ld), .val (.int pp), .val (.int qq), .unset, .unset, .unset, .unset, .unset, .unset, .unset, .unset, .unset, .unset, .unset] [(.int (97 : Int32)), (.int (32 : Int32)), (.ref b4), (.ref b4)])) (fun t kt => ?_) ?_
  · show Steps p.tables e below (T36.setTop (mkF m 257 #[.val (.int p0), .val (.int p1), .val (.int p2), .val (.int p3), .val (.int p4), .val (.int p5), .val (.int fr), .val (.int wt), .val (.int hd), .val (.int ld), .val (.int pp), .val (.int qq), .unset, .unset, .unset, .unset, .unset, .unset, .unset, .unset, .unset, .unset, .unset] [(.ref b4)])) t
    refine XS.dup X36.here hx rfl (hb hby at_257) rfl rfl ?_
    show Steps p.tables e below (T36.setTop (mkF m 258 #[.val (.int p0), .val (.int p1), .val (.int p2), .val (.int p3), .val (.int p4), .val (.int p5), .val (.int fr), .val (.int wt), .val (.int hd), .val (.int ld), .val (.int pp), .val (.int qq), .unset, .unset, .unset, .unset, .unset, .unset, .unset, .unset, .unset, .unset, .unset] [(.ref b4), (.ref b4)])) t
    refine XS.bipush X36.here hx rfl (hb hby at_258) ?_
    show Steps p.tables e below (T36.setTop (mkF m 260 #[.val (.int p0), .val (.int p1), .val (.int p2), .val (.int p3), .val (.int p4), .val (.int p5), .val (.int fr), .val (.int wt), .val (.int hd), .val (.int ld), .val (.int pp), .val (.int qq), .unset, .unset, .unset, .unset, .unset, .unset, .unset, .unset, .unset, .unset, .unset] [(.int (32 : Int32)), (.ref b4), (.ref b4)])) t
    refine XS.bipush X36.here hx rfl (hb hby at_260) ?_
    show Steps p.tables e below (T36.setTop (mkF m 262 #[.val (.int p0), .val (.int p1), .val (.int p2), .val (.int p3), .val (.int p4), .val (.int p5), .val (.int fr), .val (.int wt), .val (.int hd), .val (.int ld), .val (.int pp), .val (.int qq), .unset, .unset, .unset, .unset, .unset, .unset, .unset, .unset, .unset, .unset, .unset] [(.int (97 : Int32)), (.int (32 : Int32)), (.ref b4), (.ref b4)])) t
    exact kt
  obtain ⟨T37, h37, X37, e37, W37, B37, st37⟩ := own_bastore X36 hx hZ e36 B36 (i := 32) (by decide) (by decide) (g := (mkF m 262 #[.val (.int p0), .val (.int p1), .val (.int p2), .val (.int p3), .val (.int p4), .val (.int p5), .val (.int fr), .val (.int wt), .val (.int hd), .val (.int ld), .val (.int pp), .val (.int qq), .unset, .unset, .unset, .unset, .unset, .unset, .unset, .unset, .unset, .unset, .unset] [(.int (97 : Int32)), (.int (32 : Int32)), (.ref b4), (.ref b4)])) rfl rfl (hb hby at_262)
  refine own_go st37 ?_
  have N37 := Fr.snoc X37 N36 g_b4
  have Z37 : n0 ≤ h37.size := Nat.le_trans Z36 (Keep.of_wr W37).1
  have KK37 := KK36.wr W37 (Or.inr sz_b4)
  have kz37 := Nat.le_trans kz36 (Keep.of_wr W37).1
  refine own_go (T' := T37) (f' := (mkF m 268 #[.val (.int p0), .val (.int p1), .val (.int p2), .val (.int p3), .val (.int p4), .val (.int p5), .val (.int fr), .val (.int wt), .val (.int hd), .val (.int ld), .val (.int pp), .val (.int qq), .unset, .unset, .unset, .unset, .unset, .unset, .unset, .unset, .unset, .unset, .unset] [(.int (98 : Int32)), (.int (33 : Int32)), (.ref b4), (.ref b4)])) (fun t kt => ?_) ?_
  · show Steps p.tables e below (T37.setTop (mkF m 263 #[.val (.int p0), .val (.int p1), .val (.int p2), .val (.int p3), .val (.int p4), .val (.int p5), .val (.int fr), .val (.int wt), .val (.int hd), .val (.int ld), .val (.int pp), .val (.int qq), .unset, .unset, .unset, .unset, .unset, .unset, .unset, .unset, .unset, .unset, .unset] [(.ref b4)])) t
    refine XS.dup X37.here hx rfl (hb hby at_263) rfl rfl ?_
    show Steps p.tables e below (T37.setTop (mkF m 264 #[.val (.int p0), .val (.int p1), .val (.int p2), .val (.int p3), .val (.int p4), .val (.int p5), .val (.int fr), .val (.int wt), .val (.int hd), .val (.int ld), .val (.int pp), .val (.int qq), .unset, .unset, .unset, .unset, .unset, .unset, .unset, .unset, .unset, .unset, .unset] [(.ref b4), (.ref b4)])) t
    refine XS.bipush X37.here hx rfl (hb hby at_264) ?_
    show Steps p.tables e below (T37.setTop (mkF m 266 #[.val (.int p0), .val (.int p1), .val (.int p2), .val (.int p3), .val (.int p4), .val (.int p5), .val (.int fr), .val (.int wt), .val (.int hd), .val (.int ld), .val (.int pp), .val (.int qq), .unset, .unset, .unset, .unset, .unset, .unset, .unset, .unset, .unset, .unset, .unset] [(.int (33 : Int32)), (.ref b4), (.ref b4)])) t
    refine XS.bipush X37.here hx rfl (hb hby at_266) ?_
    show Steps p.tables e below (T37.setTop (mkF m 268 #[.val (.int p0), .val (.int p1), .val (.int p2), .val (.int p3), .val (.int p4), .val (.int p5), .val (.int fr), .val (.int wt), .val (.int hd), .val (.int ld), .val (.int pp), .val (.int qq), .unset, .unset, .unset, .unset, .unset, .unset, .unset, .unset, .unset, .unset, .unset] [(.int (98 : Int32)), (.int (33 : Int32)), (.ref b4), (.ref b4)])) t
    exact kt
  obtain ⟨T38, h38, X38, e38, W38, B38, st38⟩ := own_bastore X37 hx hZ e37 B37 (i := 33) (by decide) (by decide) (g := (mkF m 268 #[.val (.int p0), .val (.int p1), .val (.int p2), .val (.int p3), .val (.int p4), .val (.int p5), .val (.int fr), .val (.int wt), .val (.int hd), .val (.int ld), .val (.int pp), .val (.int qq), .unset, .unset, .unset, .unset, .unset, .unset, .unset, .unset, .unset, .unset, .unset] [(.int (98 : Int32)), (.int (33 : Int32)), (.ref b4), (.ref b4)])) rfl rfl (hb hby at_268)
  refine own_go st38 ?_
  have N38 := Fr.snoc X38 N37 g_b4
  have Z38 : n0 ≤ h38.size := Nat.le_trans Z37 (Keep.of_wr W38).1
  have KK38 := KK37.wr W38 (Or.inr sz_b4)
  have kz38 := Nat.le_trans kz37 (Keep.of_wr W38).1
  refine own_go (T' := T38) (f' := (mkF m 274 #[.val (.int p0), .val (.int p1), .val (.int p2), .val (.int p3), .val (.int p4), .val (.int p5), .val (.int fr), .val (.int wt), .val (.int hd), .val (.int ld), .val (.int pp), .val (.int qq), .unset, .unset, .unset, .unset, .unset, .unset, .unset, .unset, .unset, .unset, .unset] [(.int (99 : Int32)), (.int (34 : Int32)), (.ref b4), (.ref b4)])) (fun t kt => ?_) ?_
  · show Steps p.tables e below (T38.setTop (mkF m 269 #[.val (.int p0), .val (.int p1), .val (.int p2), .val (.int p3), .val (.int p4), .val (.int p5), .val (.int fr), .val (.int wt), .val (.int hd), .val (.int ld), .val (.int pp), .val (.int qq), .unset, .unset, .unset, .unset, .unset, .unset, .unset, .unset, .unset, .unset, .unset] [(.ref b4)])) t
    refine XS.dup X38.here hx rfl (hb hby at_269) rfl rfl ?_
    show Steps p.tables e below (T38.setTop (mkF m 270 #[.val (.int p0), .val (.int p1), .val (.int p2), .val (.int p3), .val (.int p4), .val (.int p5), .val (.int fr), .val (.int wt), .val (.int hd), .val (.int ld), .val (.int pp), .val (.int qq), .unset, .unset, .unset, .unset, .unset, .unset, .unset, .unset, .unset, .unset, .unset] [(.ref b4), (.ref b4)])) t
    refine XS.bipush X38.here hx rfl (hb hby at_270) ?_
    show Steps p.tables e below (T38.setTop (mkF m 272 #[.val (.int p0), .val (.int p1), .val (.int p2), .val (.int p3), .val (.int p4), .val (.int p5), .val (.int fr), .val (.int wt), .val (.int hd), .val (.int ld), .val (.int pp), .val (.int qq), .unset, .unset, .unset, .unset, .unset, .unset, .unset, .unset, .unset, .unset, .unset] [(.int (34 : Int32)), (.ref b4), (.ref b4)])) t
    refine XS.bipush X38.here hx rfl (hb hby at_272) ?_
    show Steps p.tables e below (T38.setTop (mkF m 274 #[.val (.int p0), .val (.int p1), .val (.int p2), .val (.int p3), .val (.int p4), .val (.int p5), .val (.int fr), .val (.int wt), .val (.int hd), .val (.int ld), .val (.int pp), .val (.int qq), .unset, .unset, .unset, .unset, .unset, .unset, .unset, .unset, .unset, .unset, .unset] [(.int (99 : Int32)), (.int (34 : Int32)), (.ref b4), (.ref b4)])) t
    exact kt
  obtain ⟨T39, h39, X39, e39, W39, B39, st39⟩ := own_bastore X38 hx hZ e38 B38 (i := 34) (by decide) (by decide) (g := (mkF m 274 #[.val (.int p0), .val (.int p1), .val (.int p2), .val (.int p3), .val (.int p4), .val (.int p5), .val (.int fr), .val (.int wt), .val (.int hd), .val (.int ld), .val (.int pp), .val (.int qq), .unset, .unset, .unset, .unset, .unset, .unset, .unset, .unset, .unset, .unset, .unset] [(.int (99 : Int32)), (.int (34 : Int32)), (.ref b4), (.ref b4)])) rfl rfl (hb hby at_274)
  refine own_go st39 ?_
  have N39 := Fr.snoc X39 N38 g_b4
  have Z39 : n0 ≤ h39.size := Nat.le_trans Z38 (Keep.of_wr W39).1
  have KK39 := KK38.wr W39 (Or.inr sz_b4)
  have kz39 := Nat.le_trans kz38 (Keep.of_wr W39).1
  refine own_go (T' := T39) (f' := (mkF m 280 #[.val (.int p0), .val (.int p1), .val (.int p2), .val (.int p3), .val (.int p4), .val (.int p5), .val (.int fr), .val (.int wt), .val (.int hd), .val (.int ld), .val (.int pp), .val (.int qq), .unset, .unset, .unset, .unset, .unset, .unset, .unset, .unset, .unset, .unset, .unset] [(.int (100 : Int32)), (.int (35 : Int32)), (.ref b4), (.ref b4)])) (fun t kt => ?_) ?_
  · show Steps p.tables e below (T39.setTop (mkF m 275 #[.val (.int p0), .val (.int p1), .val (.int p2), .val (.int p3), .val (.int p4), .val (.int p5), .val (.int fr), .val (.int wt), .val (.int hd), .val (.int ld), .val (.int pp), .val (.int qq), .unset, .unset, .unset, .unset, .unset, .unset, .unset, .unset, .unset, .unset, .unset] [(.ref b4)])) t
    refine XS.dup X39.here hx rfl (hb hby at_275) rfl rfl ?_
    show Steps p.tables e below (T39.setTop (mkF m 276 #[.val (.int p0), .val (.int p1), .val (.int p2), .val (.int p3), .val (.int p4), .val (.int p5), .val (.int fr), .val (.int wt), .val (.int hd), .val (.int ld), .val (.int pp), .val (.int qq), .unset, .unset, .unset, .unset, .unset, .unset, .unset, .unset, .unset, .unset, .unset] [(.ref b4), (.ref b4)])) t
    refine XS.bipush X39.here hx rfl (hb hby at_276) ?_
    show Steps p.tables e below (T39.setTop (mkF m 278 #[.val (.int p0), .val (.int p1), .val (.int p2), .val (.int p3), .val (.int p4), .val (.int p5), .val (.int fr), .val (.int wt), .val (.int hd), .val (.int ld), .val (.int pp), .val (.int qq), .unset, .unset, .unset, .unset, .unset, .unset, .unset, .unset, .unset, .unset, .unset] [(.int (35 : Int32)), (.ref b4), (.ref b4)])) t
    refine XS.bipush X39.here hx rfl (hb hby at_278) ?_
    show Steps p.tables e below (T39.setTop (mkF m 280 #[.val (.int p0), .val (.int p1), .val (.int p2), .val (.int p3), .val (.int p4), .val (.int p5), .val (.int fr), .val (.int wt), .val (.int hd), .val (.int ld), .val (.int pp), .val (.int qq), .unset, .unset, .unset, .unset, .unset, .unset, .unset, .unset, .unset, .unset, .unset] [(.int (100 : Int32)), (.int (35 : Int32)), (.ref b4), (.ref b4)])) t
    exact kt
  obtain ⟨T40, h40, X40, e40, W40, B40, st40⟩ := own_bastore X39 hx hZ e39 B39 (i := 35) (by decide) (by decide) (g := (mkF m 280 #[.val (.int p0), .val (.int p1), .val (.int p2), .val (.int p3), .val (.int p4), .val (.int p5), .val (.int fr), .val (.int wt), .val (.int hd), .val (.int ld), .val (.int pp), .val (.int qq), .unset, .unset, .unset, .unset, .unset, .unset, .unset, .unset, .unset, .unset, .unset] [(.int (100 : Int32)), (.int (35 : Int32)), (.ref b4), (.ref b4)])) rfl rfl (hb hby at_280)
  refine own_go st40 ?_
  have N40 := Fr.snoc X40 N39 g_b4
  have Z40 : n0 ≤ h40.size := Nat.le_trans Z39 (Keep.of_wr W40).1
  have KK40 := KK39.wr W40 (Or.inr sz_b4)
  have kz40 := Nat.le_trans kz39 (Keep.of_wr W40).1
  obtain ⟨f0, hf0⟩ : ∃ z, z = (own_set (own_set (own_set (own_set (own_set (own_set (own_set (own_set (own_set (own_set (own_set (own_set (own_set (own_set (own_set (own_set (own_set (own_set (own_set (own_set (own_set (own_set (own_set (own_set (own_set (own_set (own_set (own_set (own_set (own_set (own_set (own_set (own_set (own_set (own_set (own_set (fun _ => (0 : Int32)) 0 ((48 : Int32).toInt8.toInt32)) 1 ((49 : Int32).toInt8.toInt32)) 2 ((50 : Int32).toInt8.toInt32)) 3 ((51 : Int32).toInt8.toInt32)) 4 ((52 : Int32).toInt8.toInt32)) 5 ((53 : Int32).toInt8.toInt32)) 6 ((54 : Int32).toInt8.toInt32)) 7 ((55 : Int32).toInt8.toInt32)) 8 ((56 : Int32).toInt8.toInt32)) 9 ((57 : Int32).toInt8.toInt32)) 10 ((97 : Int32).toInt8.toInt32)) 11 ((98 : Int32).toInt8.toInt32)) 12 ((99 : Int32).toInt8.toInt32)) 13 ((100 : Int32).toInt8.toInt32)) 14 ((101 : Int32).toInt8.toInt32)) 15 ((102 : Int32).toInt8.toInt32)) 16 ((65 : Int32).toInt8.toInt32)) 17 ((66 : Int32).toInt8.toInt32)) 18 ((67 : Int32).toInt8.toInt32)) 19 ((68 : Int32).toInt8.toInt32)) 20 ((69 : Int32).toInt8.toInt32)) 21 ((70 : Int32).toInt8.toInt32)) 22 ((48 : Int32).toInt8.toInt32)) 23 ((49 : Int32).toInt8.toInt32)) 24 ((50 : Int32).toInt8.toInt32)) 25 ((51 : Int32).toInt8.toInt32)) 26 ((52 : Int32).toInt8.toInt32)) 27 ((53 : Int32).toInt8.toInt32)) 28 ((54 : Int32).toInt8.toInt32)) 29 ((55 : Int32).toInt8.toInt32)) 30 ((56 : Int32).toInt8.toInt32)) 31 ((57 : Int32).toInt8.toInt32)) 32 ((97 : Int32).toInt8.toInt32)) 33 ((98 : Int32).toInt8.toInt32)) 34 ((99 : Int32).toInt8.toInt32)) 35 ((100 : Int32).toInt8.toInt32)) := ⟨_, rfl⟩
  rw [← hf0] at B40
  refine own_go (T' := T40) (f' := (mkF m 283 #[.val (.int p0), .val (.int p1), .val (.int p2), .val (.int p3), .val (.int p4), .val (.int p5), .val (.int fr), .val (.int wt), .val (.int hd), .val (.int ld), .val (.int pp), .val (.int qq), .val (.ref b4), .unset, .unset, .unset, .unset, .unset, .unset, .unset, .unset, .unset, .unset] [])) (fun t kt => ?_) ?_
  · show Steps p.tables e below (T40.setTop (mkF m 281 #[.val (.int p0), .val (.int p1), .val (.int p2), .val (.int p3), .val (.int p4), .val (.int p5), .val (.int fr), .val (.int wt), .val (.int hd), .val (.int ld), .val (.int pp), .val (.int qq), .unset, .unset, .unset, .unset, .unset, .unset, .unset, .unset, .unset, .unset, .unset] [(.ref b4)])) t
    refine XS.astore X40.here hx rfl (hb hby at_281) rfl rfl (l' := #[.val (.int p0), .val (.int p1), .val (.int p2), .val (.int p3), .val (.int p4), .val (.int p5), .val (.int fr), .val (.int wt), .val (.int hd), .val (.int ld), .val (.int pp), .val (.int qq), .val (.ref b4), .unset, .unset, .unset, .unset, .unset, .unset, .unset, .unset, .unset, .unset]) rfl ?_
    show Steps p.tables e below (T40.setTop (mkF m 283 #[.val (.int p0), .val (.int p1), .val (.int p2), .val (.int p3), .val (.int p4), .val (.int p5), .val (.int fr), .val (.int wt), .val (.int hd), .val (.int ld), .val (.int pp), .val (.int qq), .val (.ref b4), .unset, .unset, .unset, .unset, .unset, .unset, .unset, .unset, .unset, .unset] [])) t
    exact kt
  have CH := H0.keep KK40 (by simp)
  have hq0 : ∀ j, j < 36 → own_goodB (f0 j) = true := by rw [hf0]; decide +kernel
  obtain ⟨k, hk, hk3⟩ := own_and3 hfr
  obtain ⟨kp, hkp, hkp15⟩ := own_and15 hpp
  obtain ⟨kq, hkq, hkq15⟩ := own_and15 hqq
  refine own_go (T' := T40) (f' := (mkF m 286 #[.val (.int p0), .val (.int p1), .val (.int p2), .val (.int p3), .val (.int p4), .val (.int p5), .val (.int fr), .val (.int wt), .val (.int hd), .val (.int ld), .val (.int pp), .val (.int qq), .val (.ref b4), .unset, .unset, .unset, .unset, .unset, .unset, .unset, .unset, .unset, .unset] [(.int hd), (.int p1)])) (fun t kt => ?_) ?_
  · show Steps p.tables e below (T40.setTop (mkF m 283 #[.val (.int p0), .val (.int p1), .val (.int p2), .val (.int p3), .val (.int p4), .val (.int p5), .val (.int fr), .val (.int wt), .val (.int hd), .val (.int ld), .val (.int pp), .val (.int qq), .val (.ref b4), .unset, .unset, .unset, .unset, .unset, .unset, .unset, .unset, .unset, .unset] [])) t
    refine XS.iloadN X40.here hx rfl (hb hby at_283) rfl ?_
    show Steps p.tables e below (T40.setTop (mkF m 284 #[.val (.int p0), .val (.int p1), .val (.int p2), .val (.int p3), .val (.int p4), .val (.int p5), .val (.int fr), .val (.int wt), .val (.int hd), .val (.int ld), .val (.int pp), .val (.int qq), .val (.ref b4), .unset, .unset, .unset, .unset, .unset, .unset, .unset, .unset, .unset, .unset] [(.int p1)])) t
    refine XS.iload X40.here hx rfl (hb hby at_284) rfl ?_
    show Steps p.tables e below (T40.setTop (mkF m 286 #[.val (.int p0), .val (.int p1), .val (.int p2), .val (.int p3), .val (.int p4), .val (.int p5), .val (.int fr), .val (.int wt), .val (.int hd), .val (.int ld), .val (.int pp), .val (.int qq), .val (.ref b4), .unset, .unset, .unset, .unset, .unset, .unset, .unset, .unset, .unset, .unset] [(.int hd), (.int p1)])) t
    exact kt
  refine own_callSHE X40 hx hZ hown e40 hS kz40 (own_EW hw) CH (hw _ (List.mem_of_getElem? (i := 1) rfl)) (hw _ (List.mem_of_getElem? (i := 2) rfl)) (hw _ (List.mem_of_getElem? (i := 3) rfl)) (hw _ (List.mem_of_getElem? (i := 4) rfl)) (by decide) (rm1 l Z aw hw p1 hd vb zc h40 n0 Z40 (own_sta_keep SI KK40) hcat (own_sta_keep SC KK40) hzc) (g := (mkF m 286 #[.val (.int p0), .val (.int p1), .val (.int p2), .val (.int p3), .val (.int p4), .val (.int p5), .val (.int fr), .val (.int wt), .val (.int hd), .val (.int ld), .val (.int pp), .val (.int qq), .val (.ref b4), .unset, .unset, .unset, .unset, .unset, .unset, .unset, .unset, .unset, .unset] [(.int hd), (.int p1)])) rfl (by rw [hml]; rfl) (argsL := [(.int p1), (.int hd)]) (rest := []) (lenOf pd_6 rfl) rfl rfl (W := 0) (by show 2 * 0 + _ ≤ _; exact Nat.le_of_eq rfl) (hb hby at_286) (by decide) (by decide) (by decide) (by decide) ?_
  rintro _ T41 L41 X41 hZ hown hS CR41 ⟨rfl, Nq41, Kq41⟩
  replace CH := CR41.1
  have N41 := Fr.app N40 Nq41
  replace B40 := (B40.keep Kq41 nin0)
  have ZKq41 : n0 ≤ T41.heap.size := Nat.le_trans Z40 Kq41.1
  have KKKq41 := KK40.trans Kq41 (all0)
  have kzKq41 := Nat.le_trans kz40 Kq41.1
  obtain ⟨zb, hzb⟩ : ∃ z, z = (own_dv p1 hd) := ⟨_, rfl⟩
  rw [← hzb]
  refine own_go (T' := T41) (f' := (mkF m 294 #[.val (.int p0), .val (.int p1), .val (.int p2), .val (.int p3), .val (.int p4), .val (.int p5), .val (.int fr), .val (.int wt), .val (.int hd), .val (.int ld), .val (.int pp), .val (.int qq), .val (.ref b4), .val (.int zb), .unset, .unset, .unset, .unset, .unset, .unset, .unset, .unset, .unset] [(.int ld), (.int p2)])) (fun t kt => ?_) ?_
  · show Steps p.tables e below (T41.setTop (mkF m 289 #[.val (.int p0), .val (.int p1), .val (.int p2), .val (.int p3), .val (.int p4), .val (.int p5), .val (.int fr), .val (.int wt), .val (.int hd), .val (.int ld), .val (.int pp), .val (.int qq), .val (.ref b4), .unset, .unset, .unset, .unset, .unset, .unset, .unset, .unset, .unset, .unset] [(.int zb)])) t
    refine XS.istore X41.here hx rfl (hb hby at_289) rfl (l' := #[.val (.int p0), .val (.int p1), .val (.int p2), .val (.int p3), .val (.int p4), .val (.int p5), .val (.int fr), .val (.int wt), .val (.int hd), .val (.int ld), .val (.int pp), .val (.int qq), .val (.ref b4), .val (.int zb), .unset, .unset, .unset, .unset, .unset, .unset, .unset, .unset, .unset]) rfl ?_
    show Steps p.tables e below (T41.setTop (mkF m 291 #[.val (.int p0), .val (.int p1), .val (.int p2), .val (.int p3), .val (.int p4), .val (.int p5), .val (.int fr), .val (.int wt), .val (.int hd), .val (.int ld), .val (.int pp), .val (.int qq), .val (.ref b4), .val (.int zb), .unset, .unset, .unset, .unset, .unset, .unset, .unset, .unset, .unset] [])) t
    refine XS.iloadN X41.here hx rfl (hb hby at_291) rfl ?_
    show Steps p.tables e below (T41.setTop (mkF m 292 #[.val (.int p0), .val (.int p1), .val (.int p2), .val (.int p3), .val (.int p4), .val (.int p5), .val (.int fr), .val (.int wt), .val (.int hd), .val (.int ld), .val (.int pp), .val (.int qq), .val (.ref b4), .val (.int zb), .unset, .unset, .unset, .unset, .unset, .unset, .unset, .unset, .unset] [(.int p2)])) t
    refine XS.iload X41.here hx rfl (hb hby at_292) rfl ?_
    show Steps p.tables e below (T41.setTop (mkF m 294 #[.val (.int p0), .val (.int p1), .val (.int p2), .val (.int p3), .val (.int p4), .val (.int p5), .val (.int fr), .val (.int wt), .val (.int hd), .val (.int ld), .val (.int pp), .val (.int qq), .val (.ref b4), .val (.int zb), .unset, .unset, .unset, .unset, .unset, .unset, .unset, .unset, .unset] [(.int ld), (.int p2)])) t
    exact kt
  refine own_callSHE X41 hx hZ hown rfl hS (Nat.le_refl _) (own_EW hw) CH (hw _ (List.mem_of_getElem? (i := 1) rfl)) (hw _ (List.mem_of_getElem? (i := 2) rfl)) (hw _ (List.mem_of_getElem? (i := 3) rfl)) (hw _ (List.mem_of_getElem? (i := 4) rfl)) (by decide) (rm1 l Z aw hw p2 ld vb zc T41.heap n0 ZKq41 (own_sta_keep SI KKKq41) hcat (own_sta_keep SC KKKq41) hzc) (g := (mkF m 294 #[.val (.int p0), .val (.int p1), .val (.int p2), .val (.int p3), .val (.int p4), .val (.int p5), .val (.int fr), .val (.int wt), .val (.int hd), .val (.int ld), .val (.int pp), .val (.int qq), .val (.ref b4), .val (.int zb), .unset, .unset, .unset, .unset, .unset, .unset, .unset, .unset, .unset] [(.int ld), (.int p2)])) rfl (by rw [hml]; rfl) (argsL := [(.int p2), (.int ld)]) (rest := []) (lenOf pd_6 rfl) rfl rfl (W := 0) (by show 2 * 0 + _ ≤ _; exact Nat.le_of_eq rfl) (hb hby at_294) (by decide) (by decide) (by decide) (by decide) ?_
  rintro _ T42 L42 X42 hZ hown hS CR42 ⟨rfl, Nq42, Kq42⟩
  replace CH := CR42.1
  have N42 := Fr.app N41 Nq42
  replace B40 := (B40.keep Kq42 nin0)
  have ZKq42 : n0 ≤ T42.heap.size := Nat.le_trans ZKq41 Kq42.1
  have KKKq42 := KKKq41.trans Kq42 (all0)
  have kzKq42 := Nat.le_trans (Nat.le_refl _) Kq42.1
  obtain ⟨lb, hlb⟩ : ∃ z, z = (own_dv p2 ld) := ⟨_, rfl⟩
  rw [← hlb]
  refine own_go (T' := T42) (f' := (mkF m 310 #[.val (.int p0), .val (.int p1), .val (.int p2), .val (.int p3), .val (.int p4), .val (.int p5), .val (.int fr), .val (.int wt), .val (.int hd), .val (.int ld), .val (.int pp), .val (.int qq), .val (.ref b4), .val (.int zb), .val (.int lb), .unset, .unset, .unset, .unset, .unset, .unset, .unset, .unset] [(.int zb), (.int (fr + ((2 : Int32) * pp))), (.ref b4)])) (fun t kt => ?_) ?_
  · show Steps p.tables e below (T42.setTop (mkF m 297 #[.val (.int p0), .val (.int p1), .val (.int p2), .val (.int p3), .val (.int p4), .val (.int p5), .val (.int fr), .val (.int wt), .val (.int hd), .val (.int ld), .val (.int pp), .val (.int qq), .val (.ref b4), .val (.int zb), .unset, .unset, .unset, .unset, .unset, .unset, .unset, .unset, .unset] [(.int lb)])) t
    refine XS.istore X42.here hx rfl (hb hby at_297) rfl (l' := #[.val (.int p0), .val (.int p1), .val (.int p2), .val (.int p3), .val (.int p4), .val (.int p5), .val (.int fr), .val (.int wt), .val (.int hd), .val (.int ld), .val (.int pp), .val (.int qq), .val (.ref b4), .val (.int zb), .val (.int lb), .unset, .unset, .unset, .unset, .unset, .unset, .unset, .unset]) rfl ?_
    show Steps p.tables e below (T42.setTop (mkF m 299 #[.val (.int p0), .val (.int p1), .val (.int p2), .val (.int p3), .val (.int p4), .val (.int p5), .val (.int fr), .val (.int wt), .val (.int hd), .val (.int ld), .val (.int pp), .val (.int qq), .val (.ref b4), .val (.int zb), .val (.int lb), .unset, .unset, .unset, .unset, .unset, .unset, .unset, .unset] [])) t
    refine XS.aload X42.here hx rfl (hb hby at_299) rfl rfl ?_
    show Steps p.tables e below (T42.setTop (mkF m 301 #[.val (.int p0), .val (.int p1), .val (.int p2), .val (.int p3), .val (.int p4), .val (.int p5), .val (.int fr), .val (.int wt), .val (.int hd), .val (.int ld), .val (.int pp), .val (.int qq), .val (.ref b4), .val (.int zb), .val (.int lb), .unset, .unset, .unset, .unset, .unset, .unset, .unset, .unset] [(.ref b4)])) t
    refine XS.iload X42.here hx rfl (hb hby at_301) rfl ?_
    show Steps p.tables e below (T42.setTop (mkF m 303 #[.val (.int p0), .val (.int p1), .val (.int p2), .val (.int p3), .val (.int p4), .val (.int p5), .val (.int fr), .val (.int wt), .val (.int hd), .val (.int ld), .val (.int pp), .val (.int qq), .val (.ref b4), .val (.int zb), .val (.int lb), .unset, .unset, .unset, .unset, .unset, .unset, .unset, .unset] [(.int fr), (.ref b4)])) t
    refine XS.iconst X42.here hx rfl (hb hby at_303) ?_
    show Steps p.tables e below (T42.setTop (mkF m 304 #[.val (.int p0), .val (.int p1), .val (.int p2), .val (.int p3), .val (.int p4), .val (.int p5), .val (.int fr), .val (.int wt), .val (.int hd), .val (.int ld), .val (.int pp), .val (.int qq), .val (.ref b4), .val (.int zb), .val (.int lb), .unset, .unset, .unset, .unset, .unset, .unset, .unset, .unset] [(.int (2 : Int32)), (.int fr), (.ref b4)])) t
    refine XS.iload X42.here hx rfl (hb hby at_304) rfl ?_
    show Steps p.tables e below (T42.setTop (mkF m 306 #[.val (.int p0), .val (.int p1), .val (.int p2), .val (.int p3), .val (.int p4), .val (.int p5), .val (.int fr), .val (.int wt), .val (.int hd), .val (.int ld), .val (.int pp), .val (.int qq), .val (.ref b4), .val (.int zb), .val (.int lb), .unset, .unset, .unset, .unset, .unset, .unset, .unset, .unset] [(.int pp), (.int (2 : Int32)), (.int fr), (.ref b4)])) t
    refine XS.imul X42.here hx rfl (hb hby at_306) rfl ?_
    show Steps p.tables e below (T42.setTop (mkF m 307 #[.val (.int p0), .val (.int p1), .val (.int p2), .val (.int p3), .val (.int p4), .val (.int p5), .val (.int fr), .val (.int wt), .val (.int hd), .val (.int ld), .val (.int pp), .val (.int qq), .val (.ref b4), .val (.int zb), .val (.int lb), .unset, .unset, .unset, .unset, .unset, .unset, .unset, .unset] [(.int ((2 : Int32) * pp)), (.int fr), (.ref b4)])) t
    refine XS.iadd X42.here hx rfl (hb hby at_307) rfl ?_
    show Steps p.tables e below (T42.setTop (mkF m 308 #[.val (.int p0), .val (.int p1), .val (.int p2), .val (.int p3), .val (.int p4), .val (.int p5), .val (.int fr), .val (.int wt), .val (.int hd), .val (.int ld), .val (.int pp), .val (.int qq), .val (.ref b4), .val (.int zb), .val (.int lb), .unset, .unset, .unset, .unset, .unset, .unset, .unset, .unset] [(.int (fr + ((2 : Int32) * pp))), (.ref b4)])) t
    refine XS.iload X42.here hx rfl (hb hby at_308) rfl ?_
    show Steps p.tables e below (T42.setTop (mkF m 310 #[.val (.int p0), .val (.int p1), .val (.int p2), .val (.int p3), .val (.int p4), .val (.int p5), .val (.int fr), .val (.int wt), .val (.int hd), .val (.int ld), .val (.int pp), .val (.int qq), .val (.ref b4), .val (.int zb), .val (.int lb), .unset, .unset, .unset, .unset, .unset, .unset, .unset, .unset] [(.int zb), (.int (fr + ((2 : Int32) * pp))), (.ref b4)])) t
    exact kt
  obtain ⟨T43, h43, X43, e43, W43, B43, st43⟩ := own_bastore X42 hx hZ rfl B40 (i := (k + 2 * kp)) (own_ixl hk hk3 hkp hkp15) (by omega) (g := (mkF m 310 #[.val (.int p0), .val (.int p1), .val (.int p2), .val (.int p3), .val (.int p4), .val (.int p5), .val (.int fr), .val (.int wt), .val (.int hd), .val (.int ld), .val (.int pp), .val (.int qq), .val (.ref b4), .val (.int zb), .val (.int lb), .unset, .unset, .unset, .unset, .unset, .unset, .unset, .unset] [(.int zb), (.int (fr + ((2 : Int32) * pp))), (.ref b4)])) rfl rfl (hb hby at_310)
  refine own_go st43 ?_
  have N43 := Fr.snoc X43 N42 g_b4
  have Z43 : n0 ≤ h43.size := Nat.le_trans ZKq42 (Keep.of_wr W43).1
  have KK43 := KKKq42.wr W43 (Or.inr sz_b4)
  have kz43 := Nat.le_trans (Nat.le_refl _) (Keep.of_wr W43).1
  obtain ⟨f1, hf1⟩ : ∃ z, z = (own_set f0 (k + 2 * kp) (zb.toInt8.toInt32)) := ⟨_, rfl⟩
  rw [← hf1] at B43
  refine own_go (T' := T43) (f' := (mkF m 324 #[.val (.int p0), .val (.int p1), .val (.int p2), .val (.int p3), .val (.int p4), .val (.int p5), .val (.int fr), .val (.int wt), .val (.int hd), .val (.int ld), .val (.int pp), .val (.int qq), .val (.ref b4), .val (.int zb), .val (.int lb), .unset, .unset, .unset, .unset, .unset, .unset, .unset, .unset] [(.int lb), (.int ((fr + ((2 : Int32) * pp)) + (1 : Int32))), (.ref b4)])) (fun t kt => ?_) ?_
  · show Steps p.tables e below (T43.setTop (mkF m 311 #[.val (.int p0), .val (.int p1), .val (.int p2), .val (.int p3), .val (.int p4), .val (.int p5), .val (.int fr), .val (.int wt), .val (.int hd), .val (.int ld), .val (.int pp), .val (.int qq), .val (.ref b4), .val (.int zb), .val (.int lb), .unset, .unset, .unset, .unset, .unset, .unset, .unset, .unset] [])) t
    refine XS.aload X43.here hx rfl (hb hby at_311) rfl rfl ?_
    show Steps p.tables e below (T43.setTop (mkF m 313 #[.val (.int p0), .val (.int p1), .val (.int p2), .val (.int p3), .val (.int p4), .val (.int p5), .val (.int fr), .val (.int wt), .val (.int hd), .val (.int ld), .val (.int pp), .val (.int qq), .val (.ref b4), .val (.int zb), .val (.int lb), .unset, .unset, .unset, .unset, .unset, .unset, .unset, .unset] [(.ref b4)])) t
    refine XS.iload X43.here hx rfl (hb hby at_313) rfl ?_
    show Steps p.tables e below (T43.setTop (mkF m 315 #[.val (.int p0), .val (.int p1), .val (.int p2), .val (.int p3), .val (.int p4), .val (.int p5), .val (.int fr), .val (.int wt), .val (.int hd), .val (.int ld), .val (.int pp), .val (.int qq), .val (.ref b4), .val (.int zb), .val (.int lb), .unset, .unset, .unset, .unset, .unset, .unset, .unset, .unset] [(.int fr), (.ref b4)])) t
    refine XS.iconst X43.here hx rfl (hb hby at_315) ?_
    show Steps p.tables e below (T43.setTop (mkF m 316 #[.val (.int p0), .val (.int p1), .val (.int p2), .val (.int p3), .val (.int p4), .val (.int p5), .val (.int fr), .val (.int wt), .val (.int hd), .val (.int ld), .val (.int pp), .val (.int qq), .val (.ref b4), .val (.int zb), .val (.int lb), .unset, .unset, .unset, .unset, .unset, .unset, .unset, .unset] [(.int (2 : Int32)), (.int fr), (.ref b4)])) t
    refine XS.iload X43.here hx rfl (hb hby at_316) rfl ?_
    show Steps p.tables e below (T43.setTop (mkF m 318 #[.val (.int p0), .val (.int p1), .val (.int p2), .val (.int p3), .val (.int p4), .val (.int p5), .val (.int fr), .val (.int wt), .val (.int hd), .val (.int ld), .val (.int pp), .val (.int qq), .val (.ref b4), .val (.int zb), .val (.int lb), .unset, .unset, .unset, .unset, .unset, .unset, .unset, .unset] [(.int pp), (.int (2 : Int32)), (.int fr), (.ref b4)])) t
    refine XS.imul X43.here hx rfl (hb hby at_318) rfl ?_
    show Steps p.tables e below (T43.setTop (mkF m 319 #[.val (.int p0), .val (.int p1), .val (.int p2), .val (.int p3), .val (.int p4), .val (.int p5), .val (.int fr), .val (.int wt), .val (.int hd), .val (.int ld), .val (.int pp), .val (.int qq), .val (.ref b4), .val (.int zb), .val (.int lb), .unset, .unset, .unset, .unset, .unset, .unset, .unset, .unset] [(.int ((2 : Int32) * pp)), (.int fr), (.ref b4)])) t
    refine XS.iadd X43.here hx rfl (hb hby at_319) rfl ?_
    show Steps p.tables e below (T43.setTop (mkF m 320 #[.val (.int p0), .val (.int p1), .val (.int p2), .val (.int p3), .val (.int p4), .val (.int p5), .val (.int fr), .val (.int wt), .val (.int hd), .val (.int ld), .val (.int pp), .val (.int qq), .val (.ref b4), .val (.int zb), .val (.int lb), .unset, .unset, .unset, .unset, .unset, .unset, .unset, .unset] [(.int (fr + ((2 : Int32) * pp))), (.ref b4)])) t
    refine XS.iconst X43.here hx rfl (hb hby at_320) ?_
    show Steps p.tables e below (T43.setTop (mkF m 321 #[.val (.int p0), .val (.int p1), .val (.int p2), .val (.int p3), .val (.int p4), .val (.int p5), .val (.int fr), .val (.int wt), .val (.int hd), .val (.int ld), .val (.int pp), .val (.int qq), .val (.ref b4), .val (.int zb), .val (.int lb), .unset, .unset, .unset, .unset, .unset, .unset, .unset, .unset] [(.int (1 : Int32)), (.int (fr + ((2 : Int32) * pp))), (.ref b4)])) t
    refine XS.iadd X43.here hx rfl (hb hby at_321) rfl ?_
    show Steps p.tables e below (T43.setTop (mkF m 322 #[.val (.int p0), .val (.int p1), .val (.int p2), .val (.int p3), .val (.int p4), .val (.int p5), .val (.int fr), .val (.int wt), .val (.int hd), .val (.int ld), .val (.int pp), .val (.int qq), .val (.ref b4), .val (.int zb), .val (.int lb), .unset, .unset, .unset, .unset, .unset, .unset, .unset, .unset] [(.int ((fr + ((2 : Int32) * pp)) + (1 : Int32))), (.ref b4)])) t
    refine XS.iload X43.here hx rfl (hb hby at_322) rfl ?_
    show Steps p.tables e below (T43.setTop (mkF m 324 #[.val (.int p0), .val (.int p1), .val (.int p2), .val (.int p3), .val (.int p4), .val (.int p5), .val (.int fr), .val (.int wt), .val (.int hd), .val (.int ld), .val (.int pp), .val (.int qq), .val (.ref b4), .val (.int zb), .val (.int lb), .unset, .unset, .unset, .unset, .unset, .unset, .unset, .unset] [(.int lb), (.int ((fr + ((2 : Int32) * pp)) + (1 : Int32))), (.ref b4)])) t
    exact kt
  obtain ⟨T44, h44, X44, e44, W44, B44, st44⟩ := own_bastore X43 hx hZ e43 B43 (i := (k + 2 * kp + 1)) (own_ixl1 hk hk3 hkp hkp15) (by omega) (g := (mkF m 324 #[.val (.int p0), .val (.int p1), .val (.int p2), .val (.int p3), .val (.int p4), .val (.int p5), .val (.int fr), .val (.int wt), .val (.int hd), .val (.int ld), .val (.int pp), .val (.int qq), .val (.ref b4), .val (.int zb), .val (.int lb), .unset, .unset, .unset, .unset, .unset, .unset, .unset, .unset] [(.int lb), (.int ((fr + ((2 : Int32) * pp)) + (1 : Int32))), (.ref b4)])) rfl rfl (hb hby at_324)
  refine own_go st44 ?_
  have N44 := Fr.snoc X44 N43 g_b4
  have Z44 : n0 ≤ h44.size := Nat.le_trans Z43 (Keep.of_wr W44).1
  have KK44 := KK43.wr W44 (Or.inr sz_b4)
  have kz44 := Nat.le_trans kz43 (Keep.of_wr W44).1
  obtain ⟨f2, hf2⟩ : ∃ z, z = (own_set f1 (k + 2 * kp + 1) (lb.toInt8.toInt32)) := ⟨_, rfl⟩
  rw [← hf2] at B44
  refine own_go (T' := T44) (f' := (mkF m 335 #[.val (.int p0), .val (.int p1), .val (.int p2), .val (.int p3), .val (.int p4), .val (.int p5), .val (.int fr), .val (.int wt), .val (.int hd), .val (.int ld), .val (.int pp), .val (.int qq), .val (.ref b4), .val (.int zb), .val (.int lb), .unset, .unset, .unset, .unset, .unset, .unset, .unset, .unset] [(.int (p4.toInt8.toInt32)), (.int (fr + (32 : Int32))), (.ref b4)])) (fun t kt => ?_) ?_
  · show Steps p.tables e below (T44.setTop (mkF m 325 #[.val (.int p0), .val (.int p1), .val (.int p2), .val (.int p3), .val (.int p4), .val (.int p5), .val (.int fr), .val (.int wt), .val (.int hd), .val (.int ld), .val (.int pp), .val (.int qq), .val (.ref b4), .val (.int zb), .val (.int lb), .unset, .unset, .unset, .unset, .unset, .unset, .unset, .unset] [])) t
    refine XS.aload X44.here hx rfl (hb hby at_325) rfl rfl ?_
    show Steps p.tables e below (T44.setTop (mkF m 327 #[.val (.int p0), .val (.int p1), .val (.int p2), .val (.int p3), .val (.int p4), .val (.int p5), .val (.int fr), .val (.int wt), .val (.int hd), .val (.int ld), .val (.int pp), .val (.int qq), .val (.ref b4), .val (.int zb), .val (.int lb), .unset, .unset, .unset, .unset, .unset, .unset, .unset, .unset] [(.ref b4)])) t
    refine XS.iload X44.here hx rfl (hb hby at_327) rfl ?_
    show Steps p.tables e below (T44.setTop (mkF m 329 #[.val (.int p0), .val (.int p1), .val (.int p2), .val (.int p3), .val (.int p4), .val (.int p5), .val (.int fr), .val (.int wt), .val (.int hd), .val (.int ld), .val (.int pp), .val (.int qq), .val (.ref b4), .val (.int zb), .val (.int lb), .unset, .unset, .unset, .unset, .unset, .unset, .unset, .unset] [(.int fr), (.ref b4)])) t
    refine XS.bipush X44.here hx rfl (hb hby at_329) ?_
    show Steps p.tables e below (T44.setTop (mkF m 331 #[.val (.int p0), .val (.int p1), .val (.int p2), .val (.int p3), .val (.int p4), .val (.int p5), .val (.int fr), .val (.int wt), .val (.int hd), .val (.int ld), .val (.int pp), .val (.int qq), .val (.ref b4), .val (.int zb), .val (.int lb), .unset, .unset, .unset, .unset, .unset, .unset, .unset, .unset] [(.int (32 : Int32)), (.int fr), (.ref b4)])) t
    refine XS.iadd X44.here hx rfl (hb hby at_331) rfl ?_
    show Steps p.tables e below (T44.setTop (mkF m 332 #[.val (.int p0), .val (.int p1), .val (.int p2), .val (.int p3), .val (.int p4), .val (.int p5), .val (.int fr), .val (.int wt), .val (.int hd), .val (.int ld), .val (.int pp), .val (.int qq), .val (.ref b4), .val (.int zb), .val (.int lb), .unset, .unset, .unset, .unset, .unset, .unset, .unset, .unset] [(.int (fr + (32 : Int32))), (.ref b4)])) t
    refine XS.iload X44.here hx rfl (hb hby at_332) rfl ?_
    show Steps p.tables e below (T44.setTop (mkF m 334 #[.val (.int p0), .val (.int p1), .val (.int p2), .val (.int p3), .val (.int p4), .val (.int p5), .val (.int fr), .val (.int wt), .val (.int hd), .val (.int ld), .val (.int pp), .val (.int qq), .val (.ref b4), .val (.int zb), .val (.int lb), .unset, .unset, .unset, .unset, .unset, .unset, .unset, .unset] [(.int p4), (.int (fr + (32 : Int32))), (.ref b4)])) t
    refine XS.i2b X44.here hx rfl (hb hby at_334) rfl ?_
    show Steps p.tables e below (T44.setTop (mkF m 335 #[.val (.int p0), .val (.int p1), .val (.int p2), .val (.int p3), .val (.int p4), .val (.int p5), .val (.int fr), .val (.int wt), .val (.int hd), .val (.int ld), .val (.int pp), .val (.int qq), .val (.ref b4), .val (.int zb), .val (.int lb), .unset, .unset, .unset, .unset, .unset, .unset, .unset, .unset] [(.int (p4.toInt8.toInt32)), (.int (fr + (32 : Int32))), (.ref b4)])) t
    exact kt
  obtain ⟨T45, h45, X45, e45, W45, B45, st45⟩ := own_bastore X44 hx hZ e44 B44 (i := (k + 32)) (own_ix32 hk hk3) (by omega) (g := (mkF m 335 #[.val (.int p0), .val (.int p1), .val (.int p2), .val (.int p3), .val (.int p4), .val (.int p5), .val (.int fr), .val (.int wt), .val (.int hd), .val (.int ld), .val (.int pp), .val (.int qq), .val (.ref b4), .val (.int zb), .val (.int lb), .unset, .unset, .unset, .unset, .unset, .unset, .unset, .unset] [(.int (p4.toInt8.toInt32)), (.int (fr + (32 : Int32))), (.ref b4)])) rfl rfl (hb hby at_335)
  refine own_go st45 ?_
  have N45 := Fr.snoc X45 N44 g_b4
  have Z45 : n0 ≤ h45.size := Nat.le_trans Z44 (Keep.of_wr W45).1
  have KK45 := KK44.wr W45 (Or.inr sz_b4)
  have kz45 := Nat.le_trans kz44 (Keep.of_wr W45).1
  obtain ⟨f3, hf3⟩ : ∃ z, z = (own_set f2 (k + 32) ((p4.toInt8.toInt32).toInt8.toInt32)) := ⟨_, rfl⟩
  rw [← hf3] at B45
  have hL2 : own_lineP f2 k kp zb lb := by rw [hf2, hf1]; exact own_lp2 hq0 hk3 hkp15 (hzb ▸ (own_dvb _ _).1) (hlb ▸ (own_dvb _ _).1) (hzb ▸ (own_dvb _ _).2) (hlb ▸ (own_dvb _ _).2)
  have hL3 : own_lineP f3 k kp zb lb := by rw [hf3]; exact own_lp3 hL2 hkp15 (Or.inr (Nat.le_refl _))
  refine own_go (T' := T45) (f' := (mkF m 338 #[.val (.int p0), .val (.int p1), .val (.int p2), .val (.int p3), .val (.int p4), .val (.int p5), .val (.int fr), .val (.int wt), .val (.int hd), .val (.int ld), .val (.int pp), .val (.int qq), .val (.ref b4), .val (.int zb), .val (.int lb), .unset, .unset, .unset, .unset, .unset, .unset, .unset, .unset] [(.int fr)])) (fun t kt => ?_) ?_
  · show Steps p.tables e below (T45.setTop (mkF m 336 #[.val (.int p0), .val (.int p1), .val (.int p2), .val (.int p3), .val (.int p4), .val (.int p5), .val (.int fr), .val (.int wt), .val (.int hd), .val (.int ld), .val (.int pp), .val (.int qq), .val (.ref b4), .val (.int zb), .val (.int lb), .unset, .unset, .unset, .unset, .unset, .unset, .unset, .unset] [])) t
    refine XS.iload X45.here hx rfl (hb hby at_336) rfl ?_
    show Steps p.tables e below (T45.setTop (mkF m 338 #[.val (.int p0), .val (.int p1), .val (.int p2), .val (.int p3), .val (.int p4), .val (.int p5), .val (.int fr), .val (.int wt), .val (.int hd), .val (.int ld), .val (.int pp), .val (.int qq), .val (.ref b4), .val (.int zb), .val (.int lb), .unset, .unset, .unset, .unset, .unset, .unset, .unset, .unset] [(.int fr)])) t
    exact kt
  have J354 : ∀ (Tj46 : State) (lj46 : List Loc) (hj46 : Heap) (fl : Nat → Int32) (Xj46 : Stand p l e room_1 (s.setVm T42.vm) m #[(.int p0), (.int p1), (.int p2), (.int p3), (.int p4), (.int p5)] below meth c Tj46 lj46 5 220) (Nj46 : Fr n0 lj46) (ej46 : Tj46.heap = hj46) (kzj46 : T42.heap.size ≤ hj46.size) (Zj46 : n0 ≤ hj46.size) (Kj46 : Keep h0 hj46 []) (fj46_0 : own_AB Z hj46 b4 36 fl) (hfl : own_lineP fl k kp zb lb), own_End p e below P Tj46 (mkF m 354 #[.val (.int p0), .val (.int p1), .val (.int p2), .val (.int p3), .val (.int p4), .val (.int p5), .val (.int fr), .val (.int wt), .val (.int hd), .val (.int ld), .val (.int pp), .val (.int qq), .val (.ref b4), .val (.int zb), .val (.int lb), .unset, .unset, .unset, .unset, .unset, .unset, .unset, .unset] []) := by
    intro Tj46 lj46 hj46 fl Xj46 Nj46 ej46 kzj46 Zj46 Kj46 fj46_0 hfl
    refine own_go (T' := Tj46) (f' := (mkF m 356 #[.val (.int p0), .val (.int p1), .val (.int p2), .val (.int p3), .val (.int p4), .val (.int p5), .val (.int fr), .val (.int wt), .val (.int hd), .val (.int ld), .val (.int pp), .val (.int qq), .val (.ref b4), .val (.int zb), .val (.int lb), .unset, .unset, .unset, .unset, .unset, .unset, .unset, .unset] [(.int wt)])) (fun t kt => ?_) ?_
    · show Steps p.tables e below (Tj46.setTop (mkF m 354 #[.val (.int p0), .val (.int p1), .val (.int p2), .val (.int p3), .val (.int p4), .val (.int p5), .val (.int fr), .val (.int wt), .val (.int hd), .val (.int ld), .val (.int pp), .val (.int qq), .val (.ref b4), .val (.int zb), .val (.int lb), .unset, .unset, .unset, .unset, .unset, .unset, .unset, .unset] [])) t
      refine XS.iload Xj46.here hx rfl (hb hby at_354) rfl ?_
      show Steps p.tables e below (Tj46.setTop (mkF m 356 #[.val (.int p0), .val (.int p1), .val (.int p2), .val (.int p3), .val (.int p4), .val (.int p5), .val (.int fr), .val (.int wt), .val (.int hd), .val (.int ld), .val (.int pp), .val (.int qq), .val (.ref b4), .val (.int zb), .val (.int lb), .unset, .unset, .unset, .unset, .unset, .unset, .unset, .unset] [(.int wt)])) t
      exact kt
    refine own_go (T' := Tj46) (f' := (mkF m 368 #[.val (.int p0), .val (.int p1), .val (.int p2), .val (.int p3), .val (.int p4), .val (.int p5), .val (.int fr), .val (.int wt), .val (.int hd), .val (.int ld), .val (.int pp), .val (.int qq), .val (.ref b4), .val (.int zb), .val (.int lb), .unset, .unset, .unset, .unset, .unset, .unset, .unset, .unset] [(.int (if wt = (0 : Int32) then (fr + (32 : Int32)) else p3))])) (fun t kt => ?_) ?_
    · by_cases hc356_47 : wt = (0 : Int32)
      · show Steps p.tables e below (Tj46.setTop (mkF m 356 #[.val (.int p0), .val (.int p1), .val (.int p2), .val (.int p3), .val (.int p4), .val (.int p5), .val (.int fr), .val (.int wt), .val (.int hd), .val (.int ld), .val (.int pp), .val (.int qq), .val (.ref b4), .val (.int zb), .val (.int lb), .unset, .unset, .unset, .unset, .unset, .unset, .unset, .unset] [(.int wt)])) t
        refine XS.ifYes Xj46.here hx rfl (pc0 := 356) (pc' := 363) rfl (hb hby at_356) rfl ((if0 _ _).trans (teq hc356_47).1) (by decide) (by decide) ?_
        show Steps p.tables e below (Tj46.setTop (mkF m 363 #[.val (.int p0), .val (.int p1), .val (.int p2), .val (.int p3), .val (.int p4), .val (.int p5), .val (.int fr), .val (.int wt), .val (.int hd), .val (.int ld), .val (.int pp), .val (.int qq), .val (.ref b4), .val (.int zb), .val (.int lb), .unset, .unset, .unset, .unset, .unset, .unset, .unset, .unset] [])) t
        refine XS.iload Xj46.here hx rfl (hb hby at_363) rfl ?_
        show Steps p.tables e below (Tj46.setTop (mkF m 365 #[.val (.int p0), .val (.int p1), .val (.int p2), .val (.int p3), .val (.int p4), .val (.int p5), .val (.int fr), .val (.int wt), .val (.int hd), .val (.int ld), .val (.int pp), .val (.int qq), .val (.ref b4), .val (.int zb), .val (.int lb), .unset, .unset, .unset, .unset, .unset, .unset, .unset, .unset] [(.int fr)])) t
        refine XS.bipush Xj46.here hx rfl (hb hby at_365) ?_
        show Steps p.tables e below (Tj46.setTop (mkF m 367 #[.val (.int p0), .val (.int p1), .val (.int p2), .val (.int p3), .val (.int p4), .val (.int p5), .val (.int fr), .val (.int wt), .val (.int hd), .val (.int ld), .val (.int pp), .val (.int qq), .val (.ref b4), .val (.int zb), .val (.int lb), .unset, .unset, .unset, .unset, .unset, .unset, .unset, .unset] [(.int (32 : Int32)), (.int fr)])) t
        refine XS.iadd Xj46.here hx rfl (hb hby at_367) rfl ?_
        show Steps p.tables e below (Tj46.setTop (mkF m 368 #[.val (.int p0), .val (.int p1), .val (.int p2), .val (.int p3), .val (.int p4), .val (.int p5), .val (.int fr), .val (.int wt), .val (.int hd), .val (.int ld), .val (.int pp), .val (.int qq), .val (.ref b4), .val (.int zb), .val (.int lb), .unset, .unset, .unset, .unset, .unset, .unset, .unset, .unset] [(.int (fr + (32 : Int32)))])) t
        rw [if_pos hc356_47] at kt
        exact kt
      · show Steps p.tables e below (Tj46.setTop (mkF m 356 #[.val (.int p0), .val (.int p1), .val (.int p2), .val (.int p3), .val (.int p4), .val (.int p5), .val (.int fr), .val (.int wt), .val (.int hd), .val (.int ld), .val (.int pp), .val (.int qq), .val (.ref b4), .val (.int zb), .val (.int lb), .unset, .unset, .unset, .unset, .unset, .unset, .unset, .unset] [(.int wt)])) t
        refine XS.ifNo Xj46.here hx rfl (hb hby at_356) rfl ((if0 _ _).trans (feq hc356_47).1) ?_
        show Steps p.tables e below (Tj46.setTop (mkF m 359 #[.val (.int p0), .val (.int p1), .val (.int p2), .val (.int p3), .val (.int p4), .val (.int p5), .val (.int fr), .val (.int wt), .val (.int hd), .val (.int ld), .val (.int pp), .val (.int qq), .val (.ref b4), .val (.int zb), .val (.int lb), .unset, .unset, .unset, .unset, .unset, .unset, .unset, .unset] [])) t
        refine XS.iloadN Xj46.here hx rfl (hb hby at_359) rfl ?_
        show Steps p.tables e below (Tj46.setTop (mkF m 360 #[.val (.int p0), .val (.int p1), .val (.int p2), .val (.int p3), .val (.int p4), .val (.int p5), .val (.int fr), .val (.int wt), .val (.int hd), .val (.int ld), .val (.int pp), .val (.int qq), .val (.ref b4), .val (.int zb), .val (.int lb), .unset, .unset, .unset, .unset, .unset, .unset, .unset, .unset] [(.int p3)])) t
        refine XS.goto Xj46.here hx rfl (pc0 := 360) (pc' := 368) rfl (hb hby at_360) (by decide) (by decide) ?_
        show Steps p.tables e below (Tj46.setTop (mkF m 368 #[.val (.int p0), .val (.int p1), .val (.int p2), .val (.int p3), .val (.int p4), .val (.int p5), .val (.int fr), .val (.int wt), .val (.int hd), .val (.int ld), .val (.int pp), .val (.int qq), .val (.ref b4), .val (.int zb), .val (.int lb), .unset, .unset, .unset, .unset, .unset, .unset, .unset, .unset] [(.int p3)])) t
        rw [if_neg hc356_47] at kt
        exact kt
    obtain ⟨tov, htov⟩ : ∃ z, z = (if wt = (0 : Int32) then (fr + (32 : Int32)) else p3) := ⟨_, rfl⟩
    rw [← htov]
    refine own_go (T' := Tj46) (f' := (mkF m 370 #[.val (.int p0), .val (.int p1), .val (.int p2), .val (.int p3), .val (.int p4), .val (.int p5), .val (.int fr), .val (.int wt), .val (.int hd), .val (.int ld), .val (.int pp), .val (.int qq), .val (.ref b4), .val (.int zb), .val (.int lb), .val (.int tov), .unset, .unset, .unset, .unset, .unset, .unset, .unset] [])) (fun t kt => ?_) ?_
    · show Steps p.tables e below (Tj46.setTop (mkF m 368 #[.val (.int p0), .val (.int p1), .val (.int p2), .val (.int p3), .val (.int p4), .val (.int p5), .val (.int fr), .val (.int wt), .val (.int hd), .val (.int ld), .val (.int pp), .val (.int qq), .val (.ref b4), .val (.int zb), .val (.int lb), .unset, .unset, .unset, .unset, .unset, .unset, .unset, .unset] [(.int tov)])) t
      refine XS.istore Xj46.here hx rfl (hb hby at_368) rfl (l' := #[.val (.int p0), .val (.int p1), .val (.int p2), .val (.int p3), .val (.int p4), .val (.int p5), .val (.int fr), .val (.int wt), .val (.int hd), .val (.int ld), .val (.int pp), .val (.int qq), .val (.ref b4), .val (.int zb), .val (.int lb), .val (.int tov), .unset, .unset, .unset, .unset, .unset, .unset, .unset]) rfl ?_
      show Steps p.tables e below (Tj46.setTop (mkF m 370 #[.val (.int p0), .val (.int p1), .val (.int p2), .val (.int p3), .val (.int p4), .val (.int p5), .val (.int fr), .val (.int wt), .val (.int hd), .val (.int ld), .val (.int pp), .val (.int qq), .val (.ref b4), .val (.int zb), .val (.int lb), .val (.int tov), .unset, .unset, .unset, .unset, .unset, .unset, .unset] [])) t
      exact kt
    have J529 : ∀ (Tj48 : State) (lj48 : List Loc) (hj48 : Heap) (s16 : Slot) (s20 : Slot) (s21 : Slot) (Xj48 : Stand p l e room_1 (s.setVm T42.vm) m #[(.int p0), (.int p1), (.int p2), (.int p3), (.int p4), (.int p5)] below meth c Tj48 lj48 6 236) (Nj48 : Fr n0 lj48) (ej48 : Tj48.heap = hj48) (kzj48 : T42.heap.size ≤ hj48.size) (Zj48 : n0 ≤ hj48.size) (Kj48 : Keep h0 hj48 []) (fj48_0 : own_AB Z hj48 b4 36 fl) (hs16 : One s16) (hs20 : One s20) (hs21 : One s21), own_End p e below P Tj48 (mkF m 529 #[.val (.int p0), .val (.int p1), .val (.int p2), .val (.int p3), .val (.int p4), .val (.int p5), .val (.int fr), .val (.int wt), .val (.int hd), .val (.int ld), .val (.int pp), .val (.int qq), .val (.ref b4), .val (.int zb), .val (.int lb), .val (.int tov), s16, .val (.int (own_hx zb)), .val (.int (own_hx lb)), .val (.int (1 : Int32)), s20, s21, .unset] []) := by
      intro Tj48 lj48 hj48 s16 s20 s21 Xj48 Nj48 ej48 kzj48 Zj48 Kj48 fj48_0 hs16 hs20 hs21
      refine own_go (T' := Tj48) (f' := (mkF m 534 #[.val (.int p0), .val (.int p1), .val (.int p2), .val (.int p3), .val (.int p4), .val (.int p5), .val (.int fr), .val (.int wt), .val (.int hd), .val (.int ld), .val (.int pp), .val (.int qq), .val (.ref b4), .val (.int zb), .val (.int lb), .val (.int tov), s16, .val (.int (own_hx zb)), .val (.int (own_hx lb)), .val (.int (1 : Int32)), s20, s21, .unset] [(.int (p5 &&& (7 : Int32)))])) (fun t kt => ?_) ?_
      · show Steps p.tables e below (Tj48.setTop (mkF m 529 #[.val (.int p0), .val (.int p1), .val (.int p2), .val (.int p3), .val (.int p4), .val (.int p5), .val (.int fr), .val (.int wt), .val (.int hd), .val (.int ld), .val (.int pp), .val (.int qq), .val (.ref b4), .val (.int zb), .val (.int lb), .val (.int tov), s16, .val (.int (own_hx zb)), .val (.int (own_hx lb)), .val (.int (1 : Int32)), s20, s21, .unset] [])) t
        refine XS.iload Xj48.here hx rfl (hb hby at_529) rfl ?_
        show Steps p.tables e below (Tj48.setTop (mkF m 531 #[.val (.int p0), .val (.int p1), .val (.int p2), .val (.int p3), .val (.int p4), .val (.int p5), .val (.int fr), .val (.int wt), .val (.int hd), .val (.int ld), .val (.int pp), .val (.int qq), .val (.ref b4), .val (.int zb), .val (.int lb), .val (.int tov), s16, .val (.int (own_hx zb)), .val (.int (own_hx lb)), .val (.int (1 : Int32)), s20, s21, .unset] [(.int p5)])) t
        refine XS.bipush Xj48.here hx rfl (hb hby at_531) ?_
        show Steps p.tables e below (Tj48.setTop (mkF m 533 #[.val (.int p0), .val (.int p1), .val (.int p2), .val (.int p3), .val (.int p4), .val (.int p5), .val (.int fr), .val (.int wt), .val (.int hd), .val (.int ld), .val (.int pp), .val (.int qq), .val (.ref b4), .val (.int zb), .val (.int lb), .val (.int tov), s16, .val (.int (own_hx zb)), .val (.int (own_hx lb)), .val (.int (1 : Int32)), s20, s21, .unset] [(.int (7 : Int32)), (.int p5)])) t
        refine XS.iand Xj48.here hx rfl (hb hby at_533) rfl ?_
        show Steps p.tables e below (Tj48.setTop (mkF m 534 #[.val (.int p0), .val (.int p1), .val (.int p2), .val (.int p3), .val (.int p4), .val (.int p5), .val (.int fr), .val (.int wt), .val (.int hd), .val (.int ld), .val (.int pp), .val (.int qq), .val (.ref b4), .val (.int zb), .val (.int lb), .val (.int tov), s16, .val (.int (own_hx zb)), .val (.int (own_hx lb)), .val (.int (1 : Int32)), s20, s21, .unset] [(.int (p5 &&& (7 : Int32)))])) t
        exact kt
      obtain ⟨sel, hsel⟩ : ∃ z, z = (p5 &&& (7 : Int32)) := ⟨_, rfl⟩
      rw [← hsel]
      refine own_go (T' := Tj48) (f' := (mkF m 538 #[.val (.int p0), .val (.int p1), .val (.int p2), .val (.int p3), .val (.int p4), .val (.int p5), .val (.int fr), .val (.int wt), .val (.int hd), .val (.int ld), .val (.int pp), .val (.int qq), .val (.ref b4), .val (.int zb), .val (.int lb), .val (.int tov), s16, .val (.int (own_hx zb)), .val (.int (own_hx lb)), .val (.int (1 : Int32)), .val (.int sel), s21, .unset] [(.int sel)])) (fun t kt => ?_) ?_
      · show Steps p.tables e below (Tj48.setTop (mkF m 534 #[.val (.int p0), .val (.int p1), .val (.int p2), .val (.int p3), .val (.int p4), .val (.int p5), .val (.int fr), .val (.int wt), .val (.int hd), .val (.int ld), .val (.int pp), .val (.int qq), .val (.ref b4), .val (.int zb), .val (.int lb), .val (.int tov), s16, .val (.int (own_hx zb)), .val (.int (own_hx lb)), .val (.int (1 : Int32)), s20, s21, .unset] [(.int sel)])) t
        refine XS.istoreS Xj48.here hx rfl (hb hby at_534) rfl rfl hs20 ?_
        show Steps p.tables e below (Tj48.setTop (mkF m 536 #[.val (.int p0), .val (.int p1), .val (.int p2), .val (.int p3), .val (.int p4), .val (.int p5), .val (.int fr), .val (.int wt), .val (.int hd), .val (.int ld), .val (.int pp), .val (.int qq), .val (.ref b4), .val (.int zb), .val (.int lb), .val (.int tov), s16, .val (.int (own_hx zb)), .val (.int (own_hx lb)), .val (.int (1 : Int32)), .val (.int sel), s21, .unset] [])) t
        refine XS.iload Xj48.here hx rfl (hb hby at_536) rfl ?_
        show Steps p.tables e below (Tj48.setTop (mkF m 538 #[.val (.int p0), .val (.int p1), .val (.int p2), .val (.int p3), .val (.int p4), .val (.int p5), .val (.int fr), .val (.int wt), .val (.int hd), .val (.int ld), .val (.int pp), .val (.int qq), .val (.ref b4), .val (.int zb), .val (.int lb), .val (.int tov), s16, .val (.int (own_hx zb)), .val (.int (own_hx lb)), .val (.int (1 : Int32)), .val (.int sel), s21, .unset] [(.int sel)])) t
        exact kt
      by_cases hc538_49 : sel = (0 : Int32)
      · refine own_go (T' := Tj48) (f' := (mkF m 541 #[.val (.int p0), .val (.int p1), .val (.int p2), .val (.int p3), .val (.int p4), .val (.int p5), .val (.int fr), .val (.int wt), .val (.int hd), .val (.int ld), .val (.int pp), .val (.int qq), .val (.ref b4), .val (.int zb), .val (.int lb), .val (.int tov), s16, .val (.int (own_hx zb)), .val (.int (own_hx lb)), .val (.int (1 : Int32)), .val (.int sel), s21, .unset] [])) (fun t kt => ?_) ?_
        · show Steps p.tables e below (Tj48.setTop (mkF m 538 #[.val (.int p0), .val (.int p1), .val (.int p2), .val (.int p3), .val (.int p4), .val (.int p5), .val (.int fr), .val (.int wt), .val (.int hd), .val (.int ld), .val (.int pp), .val (.int qq), .val (.ref b4), .val (.int zb), .val (.int lb), .val (.int tov), s16, .val (.int (own_hx zb)), .val (.int (own_hx lb)), .val (.int (1 : Int32)), .val (.int sel), s21, .unset] [(.int sel)])) t
          refine XS.ifNo Xj48.here hx rfl (hb hby at_538) rfl ((if0 _ _).trans (teq hc538_49).2) ?_
          show Steps p.tables e below (Tj48.setTop (mkF m 541 #[.val (.int p0), .val (.int p1), .val (.int p2), .val (.int p3), .val (.int p4), .val (.int p5), .val (.int fr), .val (.int wt), .val (.int hd), .val (.int ld), .val (.int pp), .val (.int qq), .val (.ref b4), .val (.int zb), .val (.int lb), .val (.int tov), s16, .val (.int (own_hx zb)), .val (.int (own_hx lb)), .val (.int (1 : Int32)), .val (.int sel), s21, .unset] [])) t
          exact kt
        obtain ⟨T50, X50, e50, st50⟩ := getS2 Xj48 hx hZ hown (host := "") (Or.inl (hw _ (List.mem_of_getElem? (i := 62) rfl))) Via.refl ej48 (own_sta_keep S_xb Kj48) (g := (mkF m 541 #[.val (.int p0), .val (.int p1), .val (.int p2), .val (.int p3), .val (.int p4), .val (.int p5), .val (.int fr), .val (.int wt), .val (.int hd), .val (.int ld), .val (.int pp), .val (.int qq), .val (.ref b4), .val (.int zb), .val (.int lb), .val (.int tov), s16, .val (.int (own_hx zb)), .val (.int (own_hx lb)), .val (.int (1 : Int32)), .val (.int sel), s21, .unset] [])) rfl (hb hby at_541)
        refine own_go st50 ?_
        refine own_go (T' := T50) (f' := (mkF m 607 #[.val (.int p0), .val (.int p1), .val (.int p2), .val (.int p3), .val (.int p4), .val (.int p5), .val (.int fr), .val (.int wt), .val (.int hd), .val (.int ld), .val (.int pp), .val (.int qq), .val (.ref b4), .val (.int zb), .val (.int lb), .val (.int tov), s16, .val (.int (own_hx zb)), .val (.int (own_hx lb)), .val (.int (1 : Int32)), .val (.int sel), .val (.ref xb), .unset] [(.int (fr + (32 : Int32))), (.int fr), (.ref b4), (.ref xb)])) (fun t kt => ?_) ?_
        · show Steps p.tables e below (T50.setTop (mkF m 544 #[.val (.int p0), .val (.int p1), .val (.int p2), .val (.int p3), .val (.int p4), .val (.int p5), .val (.int fr), .val (.int wt), .val (.int hd), .val (.int ld), .val (.int pp), .val (.int qq), .val (.ref b4), .val (.int zb), .val (.int lb), .val (.int tov), s16, .val (.int (own_hx zb)), .val (.int (own_hx lb)), .val (.int (1 : Int32)), .val (.int sel), s21, .unset] [(.ref xb)])) t
          refine XS.astoreS X50.here hx rfl (hb hby at_544) rfl rfl rfl rfl hs21 ?_
          show Steps p.tables e below (T50.setTop (mkF m 546 #[.val (.int p0), .val (.int p1), .val (.int p2), .val (.int p3), .val (.int p4), .val (.int p5), .val (.int fr), .val (.int wt), .val (.int hd), .val (.int ld), .val (.int pp), .val (.int qq), .val (.ref b4), .val (.int zb), .val (.int lb), .val (.int tov), s16, .val (.int (own_hx zb)), .val (.int (own_hx lb)), .val (.int (1 : Int32)), .val (.int sel), .val (.ref xb), .unset] [])) t
          refine XS.goto X50.here hx rfl (pc0 := 546) (pc' := 596) rfl (hb hby at_546) (by decide) (by decide) ?_
          show Steps p.tables e below (T50.setTop (mkF m 596 #[.val (.int p0), .val (.int p1), .val (.int p2), .val (.int p3), .val (.int p4), .val (.int p5), .val (.int fr), .val (.int wt), .val (.int hd), .val (.int ld), .val (.int pp), .val (.int qq), .val (.ref b4), .val (.int zb), .val (.int lb), .val (.int tov), s16, .val (.int (own_hx zb)), .val (.int (own_hx lb)), .val (.int (1 : Int32)), .val (.int sel), .val (.ref xb), .unset] [])) t
          refine XS.aload X50.here hx rfl (hb hby at_596) rfl rfl ?_
          show Steps p.tables e below (T50.setTop (mkF m 598 #[.val (.int p0), .val (.int p1), .val (.int p2), .val (.int p3), .val (.int p4), .val (.int p5), .val (.int fr), .val (.int wt), .val (.int hd), .val (.int ld), .val (.int pp), .val (.int qq), .val (.ref b4), .val (.int zb), .val (.int lb), .val (.int tov), s16, .val (.int (own_hx zb)), .val (.int (own_hx lb)), .val (.int (1 : Int32)), .val (.int sel), .val (.ref xb), .unset] [(.ref xb)])) t
          refine XS.aload X50.here hx rfl (hb hby at_598) rfl rfl ?_
          show Steps p.tables e below (T50.setTop (mkF m 600 #[.val (.int p0), .val (.int p1), .val (.int p2), .val (.int p3), .val (.int p4), .val (.int p5), .val (.int fr), .val (.int wt), .val (.int hd), .val (.int ld), .val (.int pp), .val (.int qq), .val (.ref b4), .val (.int zb), .val (.int lb), .val (.int tov), s16, .val (.int (own_hx zb)), .val (.int (own_hx lb)), .val (.int (1 : Int32)), .val (.int sel), .val (.ref xb), .unset] [(.ref b4), (.ref xb)])) t
          refine XS.iload X50.here hx rfl (hb hby at_600) rfl ?_
          show Steps p.tables e below (T50.setTop (mkF m 602 #[.val (.int p0), .val (.int p1), .val (.int p2), .val (.int p3), .val (.int p4), .val (.int p5), .val (.int fr), .val (.int wt), .val (.int hd), .val (.int ld), .val (.int pp), .val (.int qq), .val (.ref b4), .val (.int zb), .val (.int lb), .val (.int tov), s16, .val (.int (own_hx zb)), .val (.int (own_hx lb)), .val (.int (1 : Int32)), .val (.int sel), .val (.ref xb), .unset] [(.int fr), (.ref b4), (.ref xb)])) t
          refine XS.iload X50.here hx rfl (hb hby at_602) rfl ?_
          show Steps p.tables e below (T50.setTop (mkF m 604 #[.val (.int p0), .val (.int p1), .val (.int p2), .val (.int p3), .val (.int p4), .val (.int p5), .val (.int fr), .val (.int wt), .val (.int hd), .val (.int ld), .val (.int pp), .val (.int qq), .val (.ref b4), .val (.int zb), .val (.int lb), .val (.int tov), s16, .val (.int (own_hx zb)), .val (.int (own_hx lb)), .val (.int (1 : Int32)), .val (.int sel), .val (.ref xb), .unset] [(.int fr), (.int fr), (.ref b4), (.ref xb)])) t
          refine XS.bipush X50.here hx rfl (hb hby at_604) ?_
          show Steps p.tables e below (T50.setTop (mkF m 606 #[.val (.int p0), .val (.int p1), .val (.int p2), .val (.int p3), .val (.int p4), .val (.int p5), .val (.int fr), .val (.int wt), .val (.int hd), .val (.int ld), .val (.int pp), .val (.int qq), .val (.ref b4), .val (.int zb), .val (.int lb), .val (.int tov), s16, .val (.int (own_hx zb)), .val (.int (own_hx lb)), .val (.int (1 : Int32)), .val (.int sel), .val (.ref xb), .unset] [(.int (32 : Int32)), (.int fr), (.int fr), (.ref b4), (.ref xb)])) t
          refine XS.iadd X50.here hx rfl (hb hby at_606) rfl ?_
          show Steps p.tables e below (T50.setTop (mkF m 607 #[.val (.int p0), .val (.int p1), .val (.int p2), .val (.int p3), .val (.int p4), .val (.int p5), .val (.int fr), .val (.int wt), .val (.int hd), .val (.int ld), .val (.int pp), .val (.int qq), .val (.ref b4), .val (.int zb), .val (.int lb), .val (.int tov), s16, .val (.int (own_hx zb)), .val (.int (own_hx lb)), .val (.int (1 : Int32)), .val (.int sel), .val (.ref xb), .unset] [(.int (fr + (32 : Int32))), (.int fr), (.ref b4), (.ref xb)])) t
          exact kt
        refine own_callVp X50 hx hZ hown e50 (hw _ (List.mem_of_getElem? (i := 8) rfl)) (hw _ (List.mem_of_getElem? (i := 9) rfl)) (notFace_of_selects (args := #[]) (mvT hZ (hw _ (List.mem_of_getElem? (i := 11) rfl)))) (hw _ (List.mem_of_getElem? (i := 11) rfl)) (hw _ (List.mem_of_getElem? (i := 10) rfl)) (hw _ (List.mem_of_getElem? (i := 6) rfl)) (hw _ (List.mem_of_getElem? (i := 12) rfl)) (by decide) (rm2n l Z aw hw xb b4 fr (fr + (32 : Int32)) (64 : Int32) hj48 n0 Zj48 (F_xb.keep Kj48 nin0) (own_nl _ _ (by decide))) (E_xb.keep Kj48) (g := (mkF m 607 #[.val (.int p0), .val (.int p1), .val (.int p2), .val (.int p3), .val (.int p4), .val (.int p5), .val (.int fr), .val (.int wt), .val (.int hd), .val (.int ld), .val (.int pp), .val (.int qq), .val (.ref b4), .val (.int zb), .val (.int lb), .val (.int tov), s16, .val (.int (own_hx zb)), .val (.int (own_hx lb)), .val (.int (1 : Int32)), .val (.int sel), .val (.ref xb), .unset] [(.int (fr + (32 : Int32))), (.int fr), (.ref b4), (.ref xb)])) rfl (by rw [hml]; rfl) (argsL := [(.ref b4), (.int fr), (.int (fr + (32 : Int32)))]) (rest := []) (lenOf pd_7 rfl) rfl rfl (W := 0) (by show 2 * 0 + _ ≤ _; exact Nat.le_of_eq rfl) (hb hby at_607) (by decide) (by decide) (by decide) (by decide) ?_
        intro T51 X51 e51
        refine own_go (T' := T51) (f' := (mkF m 627 #[.val (.int p0), .val (.int p1), .val (.int p2), .val (.int p3), .val (.int p4), .val (.int p5), .val (.int fr), .val (.int wt), .val (.int hd), .val (.int ld), .val (.int pp), .val (.int qq), .val (.ref b4), .val (.int zb), .val (.int lb), .val (.int tov), s16, .val (.int (own_hx zb)), .val (.int (own_hx lb)), .val (.int (1 : Int32)), .val (.int sel), .val (.ref xb), .val .null] [(.int (1 : Int32))])) (fun t kt => ?_) ?_
        · show Steps p.tables e below (T51.setTop (mkF m 610 #[.val (.int p0), .val (.int p1), .val (.int p2), .val (.int p3), .val (.int p4), .val (.int p5), .val (.int fr), .val (.int wt), .val (.int hd), .val (.int ld), .val (.int pp), .val (.int qq), .val (.ref b4), .val (.int zb), .val (.int lb), .val (.int tov), s16, .val (.int (own_hx zb)), .val (.int (own_hx lb)), .val (.int (1 : Int32)), .val (.int sel), .val (.ref xb), .unset] [.null])) t
          refine XS.astore X51.here hx rfl (hb hby at_610) rfl rfl (l' := #[.val (.int p0), .val (.int p1), .val (.int p2), .val (.int p3), .val (.int p4), .val (.int p5), .val (.int fr), .val (.int wt), .val (.int hd), .val (.int ld), .val (.int pp), .val (.int qq), .val (.ref b4), .val (.int zb), .val (.int lb), .val (.int tov), s16, .val (.int (own_hx zb)), .val (.int (own_hx lb)), .val (.int (1 : Int32)), .val (.int sel), .val (.ref xb), .val .null]) rfl ?_
          show Steps p.tables e below (T51.setTop (mkF m 612 #[.val (.int p0), .val (.int p1), .val (.int p2), .val (.int p3), .val (.int p4), .val (.int p5), .val (.int fr), .val (.int wt), .val (.int hd), .val (.int ld), .val (.int pp), .val (.int qq), .val (.ref b4), .val (.int zb), .val (.int lb), .val (.int tov), s16, .val (.int (own_hx zb)), .val (.int (own_hx lb)), .val (.int (1 : Int32)), .val (.int sel), .val (.ref xb), .val .null] [])) t
          refine XS.iload X51.here hx rfl (hb hby at_612) rfl ?_
          show Steps p.tables e below (T51.setTop (mkF m 614 #[.val (.int p0), .val (.int p1), .val (.int p2), .val (.int p3), .val (.int p4), .val (.int p5), .val (.int fr), .val (.int wt), .val (.int hd), .val (.int ld), .val (.int pp), .val (.int qq), .val (.ref b4), .val (.int zb), .val (.int lb), .val (.int tov), s16, .val (.int (own_hx zb)), .val (.int (own_hx lb)), .val (.int (1 : Int32)), .val (.int sel), .val (.ref xb), .val .null] [(.int (1 : Int32))])) t
          refine XS.ifNo X51.here hx rfl (hb hby at_614) rfl (by decide) ?_
          show Steps p.tables e below (T51.setTop (mkF m 617 #[.val (.int p0), .val (.int p1), .val (.int p2), .val (.int p3), .val (.int p4), .val (.int p5), .val (.int fr), .val (.int wt), .val (.int hd), .val (.int ld), .val (.int pp), .val (.int qq), .val (.ref b4), .val (.int zb), .val (.int lb), .val (.int tov), s16, .val (.int (own_hx zb)), .val (.int (own_hx lb)), .val (.int (1 : Int32)), .val (.int sel), .val (.ref xb), .val .null] [])) t
          refine XS.aload X51.here hx rfl (hb hby at_617) rfl rfl ?_
          show Steps p.tables e below (T51.setTop (mkF m 619 #[.val (.int p0), .val (.int p1), .val (.int p2), .val (.int p3), .val (.int p4), .val (.int p5), .val (.int fr), .val (.int wt), .val (.int hd), .val (.int ld), .val (.int pp), .val (.int qq), .val (.ref b4), .val (.int zb), .val (.int lb), .val (.int tov), s16, .val (.int (own_hx zb)), .val (.int (own_hx lb)), .val (.int (1 : Int32)), .val (.int sel), .val (.ref xb), .val .null] [.null])) t
          refine XS.ifnonnullNo X51.here hx rfl (hb hby at_619) rfl ?_
          show Steps p.tables e below (T51.setTop (mkF m 622 #[.val (.int p0), .val (.int p1), .val (.int p2), .val (.int p3), .val (.int p4), .val (.int p5), .val (.int fr), .val (.int wt), .val (.int hd), .val (.int ld), .val (.int pp), .val (.int qq), .val (.ref b4), .val (.int zb), .val (.int lb), .val (.int tov), s16, .val (.int (own_hx zb)), .val (.int (own_hx lb)), .val (.int (1 : Int32)), .val (.int sel), .val (.ref xb), .val .null] [])) t
          refine XS.iconst X51.here hx rfl (hb hby at_622) ?_
          show Steps p.tables e below (T51.setTop (mkF m 623 #[.val (.int p0), .val (.int p1), .val (.int p2), .val (.int p3), .val (.int p4), .val (.int p5), .val (.int fr), .val (.int wt), .val (.int hd), .val (.int ld), .val (.int pp), .val (.int qq), .val (.ref b4), .val (.int zb), .val (.int lb), .val (.int tov), s16, .val (.int (own_hx zb)), .val (.int (own_hx lb)), .val (.int (1 : Int32)), .val (.int sel), .val (.ref xb), .val .null] [(.int (1 : Int32))])) t
          refine XS.goto X51.here hx rfl (pc0 := 623) (pc' := 627) rfl (hb hby at_623) (by decide) (by decide) ?_
          show Steps p.tables e below (T51.setTop (mkF m 627 #[.val (.int p0), .val (.int p1), .val (.int p2), .val (.int p3), .val (.int p4), .val (.int p5), .val (.int fr), .val (.int wt), .val (.int hd), .val (.int ld), .val (.int pp), .val (.int qq), .val (.ref b4), .val (.int zb), .val (.int lb), .val (.int tov), s16, .val (.int (own_hx zb)), .val (.int (own_hx lb)), .val (.int (1 : Int32)), .val (.int sel), .val (.ref xb), .val .null] [(.int (1 : Int32))])) t
          exact kt
        exact own_retNW X51 hP hx hlk e51 hS kzj48 (t := .boolean) hret (by simp) (hb hby at_627) (by decide) (by decide) (z' := (1 : Int32)) rfl ⟨rfl, Nj48⟩
      · refine own_go (T' := Tj48) (f' := (mkF m 552 #[.val (.int p0), .val (.int p1), .val (.int p2), .val (.int p3), .val (.int p4), .val (.int p5), .val (.int fr), .val (.int wt), .val (.int hd), .val (.int ld), .val (.int pp), .val (.int qq), .val (.ref b4), .val (.int zb), .val (.int lb), .val (.int tov), s16, .val (.int (own_hx zb)), .val (.int (own_hx lb)), .val (.int (1 : Int32)), .val (.int sel), s21, .unset] [(.int (1 : Int32)), (.int sel)])) (fun t kt => ?_) ?_
        · show Steps p.tables e below (Tj48.setTop (mkF m 538 #[.val (.int p0), .val (.int p1), .val (.int p2), .val (.int p3), .val (.int p4), .val (.int p5), .val (.int fr), .val (.int wt), .val (.int hd), .val (.int ld), .val (.int pp), .val (.int qq), .val (.ref b4), .val (.int zb), .val (.int lb), .val (.int tov), s16, .val (.int (own_hx zb)), .val (.int (own_hx lb)), .val (.int (1 : Int32)), .val (.int sel), s21, .unset] [(.int sel)])) t
          refine XS.ifYes Xj48.here hx rfl (pc0 := 538) (pc' := 549) rfl (hb hby at_538) rfl ((if0 _ _).trans (feq hc538_49).2) (by decide) (by decide) ?_
          show Steps p.tables e below (Tj48.setTop (mkF m 549 #[.val (.int p0), .val (.int p1), .val (.int p2), .val (.int p3), .val (.int p4), .val (.int p5), .val (.int fr), .val (.int wt), .val (.int hd), .val (.int ld), .val (.int pp), .val (.int qq), .val (.ref b4), .val (.int zb), .val (.int lb), .val (.int tov), s16, .val (.int (own_hx zb)), .val (.int (own_hx lb)), .val (.int (1 : Int32)), .val (.int sel), s21, .unset] [])) t
          refine XS.iload Xj48.here hx rfl (hb hby at_549) rfl ?_
          show Steps p.tables e below (Tj48.setTop (mkF m 551 #[.val (.int p0), .val (.int p1), .val (.int p2), .val (.int p3), .val (.int p4), .val (.int p5), .val (.int fr), .val (.int wt), .val (.int hd), .val (.int ld), .val (.int pp), .val (.int qq), .val (.ref b4), .val (.int zb), .val (.int lb), .val (.int tov), s16, .val (.int (own_hx zb)), .val (.int (own_hx lb)), .val (.int (1 : Int32)), .val (.int sel), s21, .unset] [(.int sel)])) t
          refine XS.iconst Xj48.here hx rfl (hb hby at_551) ?_
          show Steps p.tables e below (Tj48.setTop (mkF m 552 #[.val (.int p0), .val (.int p1), .val (.int p2), .val (.int p3), .val (.int p4), .val (.int p5), .val (.int fr), .val (.int wt), .val (.int hd), .val (.int ld), .val (.int pp), .val (.int qq), .val (.ref b4), .val (.int zb), .val (.int lb), .val (.int tov), s16, .val (.int (own_hx zb)), .val (.int (own_hx lb)), .val (.int (1 : Int32)), .val (.int sel), s21, .unset] [(.int (1 : Int32)), (.int sel)])) t
          exact kt
        by_cases hc552_52 : sel = (1 : Int32)
        · refine own_go (T' := Tj48) (f' := (mkF m 555 #[.val (.int p0), .val (.int p1), .val (.int p2), .val (.int p3), .val (.int p4), .val (.int p5), .val (.int fr), .val (.int wt), .val (.int hd), .val (.int ld), .val (.int pp), .val (.int qq), .val (.ref b4), .val (.int zb), .val (.int lb), .val (.int tov), s16, .val (.int (own_hx zb)), .val (.int (own_hx lb)), .val (.int (1 : Int32)), .val (.int sel), s21, .unset] [])) (fun t kt => ?_) ?_
          · show Steps p.tables e below (Tj48.setTop (mkF m 552 #[.val (.int p0), .val (.int p1), .val (.int p2), .val (.int p3), .val (.int p4), .val (.int p5), .val (.int fr), .val (.int wt), .val (.int hd), .val (.int ld), .val (.int pp), .val (.int qq), .val (.ref b4), .val (.int zb), .val (.int lb), .val (.int tov), s16, .val (.int (own_hx zb)), .val (.int (own_hx lb)), .val (.int (1 : Int32)), .val (.int sel), s21, .unset] [(.int (1 : Int32)), (.int sel)])) t
            refine XS.icmpNo Xj48.here hx rfl (hb hby at_552) rfl (teq hc552_52).2 ?_
            show Steps p.tables e below (Tj48.setTop (mkF m 555 #[.val (.int p0), .val (.int p1), .val (.int p2), .val (.int p3), .val (.int p4), .val (.int p5), .val (.int fr), .val (.int wt), .val (.int hd), .val (.int ld), .val (.int pp), .val (.int qq), .val (.ref b4), .val (.int zb), .val (.int lb), .val (.int tov), s16, .val (.int (own_hx zb)), .val (.int (own_hx lb)), .val (.int (1 : Int32)), .val (.int sel), s21, .unset] [])) t
            exact kt
          obtain ⟨T53, X53, e53, st53⟩ := getS2 Xj48 hx hZ hown (host := "") (Or.inl (hw _ (List.mem_of_getElem? (i := 64) rfl))) Via.refl ej48 (own_sta_keep S_xc Kj48) (g := (mkF m 555 #[.val (.int p0), .val (.int p1), .val (.int p2), .val (.int p3), .val (.int p4), .val (.int p5), .val (.int fr), .val (.int wt), .val (.int hd), .val (.int ld), .val (.int pp), .val (.int qq), .val (.ref b4), .val (.int zb), .val (.int lb), .val (.int tov), s16, .val (.int (own_hx zb)), .val (.int (own_hx lb)), .val (.int (1 : Int32)), .val (.int sel), s21, .unset] [])) rfl (hb hby at_555)
          refine own_go st53 ?_
          refine own_go (T' := T53) (f' := (mkF m 607 #[.val (.int p0), .val (.int p1), .val (.int p2), .val (.int p3), .val (.int p4), .val (.int p5), .val (.int fr), .val (.int wt), .val (.int hd), .val (.int ld), .val (.int pp), .val (.int qq), .val (.ref b4), .val (.int zb), .val (.int lb), .val (.int tov), s16, .val (.int (own_hx zb)), .val (.int (own_hx lb)), .val (.int (1 : Int32)), .val (.int sel), .val (.ref xc), .unset] [(.int (fr + (32 : Int32))), (.int fr), (.ref b4), (.ref xc)])) (fun t kt => ?_) ?_
          · show Steps p.tables e below (T53.setTop (mkF m 558 #[.val (.int p0), .val (.int p1), .val (.int p2), .val (.int p3), .val (.int p4), .val (.int p5), .val (.int fr), .val (.int wt), .val (.int hd), .val (.int ld), .val (.int pp), .val (.int qq), .val (.ref b4), .val (.int zb), .val (.int lb), .val (.int tov), s16, .val (.int (own_hx zb)), .val (.int (own_hx lb)), .val (.int (1 : Int32)), .val (.int sel), s21, .unset] [(.ref xc)])) t
            refine XS.astoreS X53.here hx rfl (hb hby at_558) rfl rfl rfl rfl hs21 ?_
            show Steps p.tables e below (T53.setTop (mkF m 560 #[.val (.int p0), .val (.int p1), .val (.int p2), .val (.int p3), .val (.int p4), .val (.int p5), .val (.int fr), .val (.int wt), .val (.int hd), .val (.int ld), .val (.int pp), .val (.int qq), .val (.ref b4), .val (.int zb), .val (.int lb), .val (.int tov), s16, .val (.int (own_hx zb)), .val (.int (own_hx lb)), .val (.int (1 : Int32)), .val (.int sel), .val (.ref xc), .unset] [])) t
            refine XS.goto X53.here hx rfl (pc0 := 560) (pc' := 596) rfl (hb hby at_560) (by decide) (by decide) ?_
            show Steps p.tables e below (T53.setTop (mkF m 596 #[.val (.int p0), .val (.int p1), .val (.int p2), .val (.int p3), .val (.int p4), .val (.int p5), .val (.int fr), .val (.int wt), .val (.int hd), .val (.int ld), .val (.int pp), .val (.int qq), .val (.ref b4), .val (.int zb), .val (.int lb), .val (.int tov), s16, .val (.int (own_hx zb)), .val (.int (own_hx lb)), .val (.int (1 : Int32)), .val (.int sel), .val (.ref xc), .unset] [])) t
            refine XS.aload X53.here hx rfl (hb hby at_596) rfl rfl ?_
            show Steps p.tables e below (T53.setTop (mkF m 598 #[.val (.int p0), .val (.int p1), .val (.int p2), .val (.int p3), .val (.int p4), .val (.int p5), .val (.int fr), .val (.int wt), .val (.int hd), .val (.int ld), .val (.int pp), .val (.int qq), .val (.ref b4), .val (.int zb), .val (.int lb), .val (.int tov), s16, .val (.int (own_hx zb)), .val (.int (own_hx lb)), .val (.int (1 : Int32)), .val (.int sel), .val (.ref xc), .unset] [(.ref xc)])) t
            refine XS.aload X53.here hx rfl (hb hby at_598) rfl rfl ?_
            show Steps p.tables e below (T53.setTop (mkF m 600 #[.val (.int p0), .val (.int p1), .val (.int p2), .val (.int p3), .val (.int p4), .val (.int p5), .val (.int fr), .val (.int wt), .val (.int hd), .val (.int ld), .val (.int pp), .val (.int qq), .val (.ref b4), .val (.int zb), .val (.int lb), .val (.int tov), s16, .val (.int (own_hx zb)), .val (.int (own_hx lb)), .val (.int (1 : Int32)), .val (.int sel), .val (.ref xc), .unset] [(.ref b4), (.ref xc)])) t
            refine XS.iload X53.here hx rfl (hb hby at_600) rfl ?_
            show Steps p.tables e below (T53.setTop (mkF m 602 #[.val (.int p0), .val (.int p1), .val (.int p2), .val (.int p3), .val (.int p4), .val (.int p5), .val (.int fr), .val (.int wt), .val (.int hd), .val (.int ld), .val (.int pp), .val (.int qq), .val (.ref b4), .val (.int zb), .val (.int lb), .val (.int tov), s16, .val (.int (own_hx zb)), .val (.int (own_hx lb)), .val (.int (1 : Int32)), .val (.int sel), .val (.ref xc), .unset] [(.int fr), (.ref b4), (.ref xc)])) t
            refine XS.iload X53.here hx rfl (hb hby at_602) rfl ?_
            show Steps p.tables e below (T53.setTop (mkF m 604 #[.val (.int p0), .val (.int p1), .val (.int p2), .val (.int p3), .val (.int p4), .val (.int p5), .val (.int fr), .val (.int wt), .val (.int hd), .val (.int ld), .val (.int pp), .val (.int qq), .val (.ref b4), .val (.int zb), .val (.int lb), .val (.int tov), s16, .val (.int (own_hx zb)), .val (.int (own_hx lb)), .val (.int (1 : Int32)), .val (.int sel), .val (.ref xc), .unset] [(.int fr), (.int fr), (.ref b4), (.ref xc)])) t
            refine XS.bipush X53.here hx rfl (hb hby at_604) ?_
            show Steps p.tables e below (T53.setTop (mkF m 606 #[.val (.int p0), .val (.int p1), .val (.int p2), .val (.int p3), .val (.int p4), .val (.int p5), .val (.int fr), .val (.int wt), .val (.int hd), .val (.int ld), .val (.int pp), .val (.int qq), .val (.ref b4), .val (.int zb), .val (.int lb), .val (.int tov), s16, .val (.int (own_hx zb)), .val (.int (own_hx lb)), .val (.int (1 : Int32)), .val (.int sel), .val (.ref xc), .unset] [(.int (32 : Int32)), (.int fr), (.int fr), (.ref b4), (.ref xc)])) t
            refine XS.iadd X53.here hx rfl (hb hby at_606) rfl ?_
            show Steps p.tables e below (T53.setTop (mkF m 607 #[.val (.int p0), .val (.int p1), .val (.int p2), .val (.int p3), .val (.int p4), .val (.int p5), .val (.int fr), .val (.int wt), .val (.int hd), .val (.int ld), .val (.int pp), .val (.int qq), .val (.ref b4), .val (.int zb), .val (.int lb), .val (.int tov), s16, .val (.int (own_hx zb)), .val (.int (own_hx lb)), .val (.int (1 : Int32)), .val (.int sel), .val (.ref xc), .unset] [(.int (fr + (32 : Int32))), (.int fr), (.ref b4), (.ref xc)])) t
            exact kt
          refine own_callVp X53 hx hZ hown e53 (hw _ (List.mem_of_getElem? (i := 8) rfl)) (hw _ (List.mem_of_getElem? (i := 9) rfl)) (notFace_of_selects (args := #[]) (mvT hZ (hw _ (List.mem_of_getElem? (i := 11) rfl)))) (hw _ (List.mem_of_getElem? (i := 11) rfl)) (hw _ (List.mem_of_getElem? (i := 10) rfl)) (hw _ (List.mem_of_getElem? (i := 6) rfl)) (hw _ (List.mem_of_getElem? (i := 12) rfl)) (by decide) (rm2n l Z aw hw xc b4 fr (fr + (32 : Int32)) (48 : Int32) hj48 n0 Zj48 (F_xc.keep Kj48 nin0) (own_nl _ _ (by decide))) (E_xc.keep Kj48) (g := (mkF m 607 #[.val (.int p0), .val (.int p1), .val (.int p2), .val (.int p3), .val (.int p4), .val (.int p5), .val (.int fr), .val (.int wt), .val (.int hd), .val (.int ld), .val (.int pp), .val (.int qq), .val (.ref b4), .val (.int zb), .val (.int lb), .val (.int tov), s16, .val (.int (own_hx zb)), .val (.int (own_hx lb)), .val (.int (1 : Int32)), .val (.int sel), .val (.ref xc), .unset] [(.int (fr + (32 : Int32))), (.int fr), (.ref b4), (.ref xc)])) rfl (by rw [hml]; rfl) (argsL := [(.ref b4), (.int fr), (.int (fr + (32 : Int32)))]) (rest := []) (lenOf pd_7 rfl) rfl rfl (W := 0) (by show 2 * 0 + _ ≤ _; exact Nat.le_of_eq rfl) (hb hby at_607) (by decide) (by decide) (by decide) (by decide) ?_
          intro T54 X54 e54
          refine own_go (T' := T54) (f' := (mkF m 627 #[.val (.int p0), .val (.int p1), .val (.int p2), .val (.int p3), .val (.int p4), .val (.int p5), .val (.int fr), .val (.int wt), .val (.int hd), .val (.int ld), .val (.int pp), .val (.int qq), .val (.ref b4), .val (.int zb), .val (.int lb), .val (.int tov), s16, .val (.int (own_hx zb)), .val (.int (own_hx lb)), .val (.int (1 : Int32)), .val (.int sel), .val (.ref xc), .val .null] [(.int (1 : Int32))])) (fun t kt => ?_) ?_
          · show Steps p.tables e below (T54.setTop (mkF m 610 #[.val (.int p0), .val (.int p1), .val (.int p2), .val (.int p3), .val (.int p4), .val (.int p5), .val (.int fr), .val (.int wt), .val (.int hd), .val (.int ld), .val (.int pp), .val (.int qq), .val (.ref b4), .val (.int zb), .val (.int lb), .val (.int tov), s16, .val (.int (own_hx zb)), .val (.int (own_hx lb)), .val (.int (1 : Int32)), .val (.int sel), .val (.ref xc), .unset] [.null])) t
            refine XS.astore X54.here hx rfl (hb hby at_610) rfl rfl (l' := #[.val (.int p0), .val (.int p1), .val (.int p2), .val (.int p3), .val (.int p4), .val (.int p5), .val (.int fr), .val (.int wt), .val (.int hd), .val (.int ld), .val (.int pp), .val (.int qq), .val (.ref b4), .val (.int zb), .val (.int lb), .val (.int tov), s16, .val (.int (own_hx zb)), .val (.int (own_hx lb)), .val (.int (1 : Int32)), .val (.int sel), .val (.ref xc), .val .null]) rfl ?_
            show Steps p.tables e below (T54.setTop (mkF m 612 #[.val (.int p0), .val (.int p1), .val (.int p2), .val (.int p3), .val (.int p4), .val (.int p5), .val (.int fr), .val (.int wt), .val (.int hd), .val (.int ld), .val (.int pp), .val (.int qq), .val (.ref b4), .val (.int zb), .val (.int lb), .val (.int tov), s16, .val (.int (own_hx zb)), .val (.int (own_hx lb)), .val (.int (1 : Int32)), .val (.int sel), .val (.ref xc), .val .null] [])) t
            refine XS.iload X54.here hx rfl (hb hby at_612) rfl ?_
            show Steps p.tables e below (T54.setTop (mkF m 614 #[.val (.int p0), .val (.int p1), .val (.int p2), .val (.int p3), .val (.int p4), .val (.int p5), .val (.int fr), .val (.int wt), .val (.int hd), .val (.int ld), .val (.int pp), .val (.int qq), .val (.ref b4), .val (.int zb), .val (.int lb), .val (.int tov), s16, .val (.int (own_hx zb)), .val (.int (own_hx lb)), .val (.int (1 : Int32)), .val (.int sel), .val (.ref xc), .val .null] [(.int (1 : Int32))])) t
            refine XS.ifNo X54.here hx rfl (hb hby at_614) rfl (by decide) ?_
            show Steps p.tables e below (T54.setTop (mkF m 617 #[.val (.int p0), .val (.int p1), .val (.int p2), .val (.int p3), .val (.int p4), .val (.int p5), .val (.int fr), .val (.int wt), .val (.int hd), .val (.int ld), .val (.int pp), .val (.int qq), .val (.ref b4), .val (.int zb), .val (.int lb), .val (.int tov), s16, .val (.int (own_hx zb)), .val (.int (own_hx lb)), .val (.int (1 : Int32)), .val (.int sel), .val (.ref xc), .val .null] [])) t
            refine XS.aload X54.here hx rfl (hb hby at_617) rfl rfl ?_
            show Steps p.tables e below (T54.setTop (mkF m 619 #[.val (.int p0), .val (.int p1), .val (.int p2), .val (.int p3), .val (.int p4), .val (.int p5), .val (.int fr), .val (.int wt), .val (.int hd), .val (.int ld), .val (.int pp), .val (.int qq), .val (.ref b4), .val (.int zb), .val (.int lb), .val (.int tov), s16, .val (.int (own_hx zb)), .val (.int (own_hx lb)), .val (.int (1 : Int32)), .val (.int sel), .val (.ref xc), .val .null] [.null])) t
            refine XS.ifnonnullNo X54.here hx rfl (hb hby at_619) rfl ?_
            show Steps p.tables e below (T54.setTop (mkF m 622 #[.val (.int p0), .val (.int p1), .val (.int p2), .val (.int p3), .val (.int p4), .val (.int p5), .val (.int fr), .val (.int wt), .val (.int hd), .val (.int ld), .val (.int pp), .val (.int qq), .val (.ref b4), .val (.int zb), .val (.int lb), .val (.int tov), s16, .val (.int (own_hx zb)), .val (.int (own_hx lb)), .val (.int (1 : Int32)), .val (.int sel), .val (.ref xc), .val .null] [])) t
            refine XS.iconst X54.here hx rfl (hb hby at_622) ?_
            show Steps p.tables e below (T54.setTop (mkF m 623 #[.val (.int p0), .val (.int p1), .val (.int p2), .val (.int p3), .val (.int p4), .val (.int p5), .val (.int fr), .val (.int wt), .val (.int hd), .val (.int ld), .val (.int pp), .val (.int qq), .val (.ref b4), .val (.int zb), .val (.int lb), .val (.int tov), s16, .val (.int (own_hx zb)), .val (.int (own_hx lb)), .val (.int (1 : Int32)), .val (.int sel), .val (.ref xc), .val .null] [(.int (1 : Int32))])) t
            refine XS.goto X54.here hx rfl (pc0 := 623) (pc' := 627) rfl (hb hby at_623) (by decide) (by decide) ?_
            show Steps p.tables e below (T54.setTop (mkF m 627 #[.val (.int p0), .val (.int p1), .val (.int p2), .val (.int p3), .val (.int p4), .val (.int p5), .val (.int fr), .val (.int wt), .val (.int hd), .val (.int ld), .val (.int pp), .val (.int qq), .val (.ref b4), .val (.int zb), .val (.int lb), .val (.int tov), s16, .val (.int (own_hx zb)), .val (.int (own_hx lb)), .val (.int (1 : Int32)), .val (.int sel), .val (.ref xc), .val .null] [(.int (1 : Int32))])) t
            exact kt
          exact own_retNW X54 hP hx hlk e54 hS kzj48 (t := .boolean) hret (by simp) (hb hby at_627) (by decide) (by decide) (z' := (1 : Int32)) rfl ⟨rfl, Nj48⟩
        · refine own_go (T' := Tj48) (f' := (mkF m 566 #[.val (.int p0), .val (.int p1), .val (.int p2), .val (.int p3), .val (.int p4), .val (.int p5), .val (.int fr), .val (.int wt), .val (.int hd), .val (.int ld), .val (.int pp), .val (.int qq), .val (.ref b4), .val (.int zb), .val (.int lb), .val (.int tov), s16, .val (.int (own_hx zb)), .val (.int (own_hx lb)), .val (.int (1 : Int32)), .val (.int sel), s21, .unset] [(.int (2 : Int32)), (.int sel)])) (fun t kt => ?_) ?_
          · show Steps p.tables e below (Tj48.setTop (mkF m 552 #[.val (.int p0), .val (.int p1), .val (.int p2), .val (.int p3), .val (.int p4), .val (.int p5), .val (.int fr), .val (.int wt), .val (.int hd), .val (.int ld), .val (.int pp), .val (.int qq), .val (.ref b4), .val (.int zb), .val (.int lb), .val (.int tov), s16, .val (.int (own_hx zb)), .val (.int (own_hx lb)), .val (.int (1 : Int32)), .val (.int sel), s21, .unset] [(.int (1 : Int32)), (.int sel)])) t
            refine XS.icmpYes Xj48.here hx rfl (pc0 := 552) (pc' := 563) rfl (hb hby at_552) rfl (feq hc552_52).2 (by decide) (by decide) ?_
            show Steps p.tables e below (Tj48.setTop (mkF m 563 #[.val (.int p0), .val (.int p1), .val (.int p2), .val (.int p3), .val (.int p4), .val (.int p5), .val (.int fr), .val (.int wt), .val (.int hd), .val (.int ld), .val (.int pp), .val (.int qq), .val (.ref b4), .val (.int zb), .val (.int lb), .val (.int tov), s16, .val (.int (own_hx zb)), .val (.int (own_hx lb)), .val (.int (1 : Int32)), .val (.int sel), s21, .unset] [])) t
            refine XS.iload Xj48.here hx rfl (hb hby at_563) rfl ?_
            show Steps p.tables e below (Tj48.setTop (mkF m 565 #[.val (.int p0), .val (.int p1), .val (.int p2), .val (.int p3), .val (.int p4), .val (.int p5), .val (.int fr), .val (.int wt), .val (.int hd), .val (.int ld), .val (.int pp), .val (.int qq), .val (.ref b4), .val (.int zb), .val (.int lb), .val (.int tov), s16, .val (.int (own_hx zb)), .val (.int (own_hx lb)), .val (.int (1 : Int32)), .val (.int sel), s21, .unset] [(.int sel)])) t
            refine XS.iconst Xj48.here hx rfl (hb hby at_565) ?_
            show Steps p.tables e below (Tj48.setTop (mkF m 566 #[.val (.int p0), .val (.int p1), .val (.int p2), .val (.int p3), .val (.int p4), .val (.int p5), .val (.int fr), .val (.int wt), .val (.int hd), .val (.int ld), .val (.int pp), .val (.int qq), .val (.ref b4), .val (.int zb), .val (.int lb), .val (.int tov), s16, .val (.int (own_hx zb)), .val (.int (own_hx lb)), .val (.int (1 : Int32)), .val (.int sel), s21, .unset] [(.int (2 : Int32)), (.int sel)])) t
            exact kt
          by_cases hc566_55 : sel = (2 : Int32)
          · refine own_go (T' := Tj48) (f' := (mkF m 569 #[.val (.int p0), .val (.int p1), .val (.int p2), .val (.int p3), .val (.int p4), .val (.int p5), .val (.int fr), .val (.int wt), .val (.int hd), .val (.int ld), .val (.int pp), .val (.int qq), .val (.ref b4), .val (.int zb), .val (.int lb), .val (.int tov), s16, .val (.int (own_hx zb)), .val (.int (own_hx lb)), .val (.int (1 : Int32)), .val (.int sel), s21, .unset] [])) (fun t kt => ?_) ?_
            · show Steps p.tables e below (Tj48.setTop (mkF m 566 #[.val (.int p0), .val (.int p1), .val (.int p2), .val (.int p3), .val (.int p4), .val (.int p5), .val (.int fr), .val (.int wt), .val (.int hd), .val (.int ld), .val (.int pp), .val (.int qq), .val (.ref b4), .val (.int zb), .val (.int lb), .val (.int tov), s16, .val (.int (own_hx zb)), .val (.int (own_hx lb)), .val (.int (1 : Int32)), .val (.int sel), s21, .unset] [(.int (2 : Int32)), (.int sel)])) t
              refine XS.icmpNo Xj48.here hx rfl (hb hby at_566) rfl (teq hc566_55).2 ?_
              show Steps p.tables e below (Tj48.setTop (mkF m 569 #[.val (.int p0), .val (.int p1), .val (.int p2), .val (.int p3), .val (.int p4), .val (.int p5), .val (.int fr), .val (.int wt), .val (.int hd), .val (.int ld), .val (.int pp), .val (.int qq), .val (.ref b4), .val (.int zb), .val (.int lb), .val (.int tov), s16, .val (.int (own_hx zb)), .val (.int (own_hx lb)), .val (.int (1 : Int32)), .val (.int sel), s21, .unset] [])) t
              exact kt
            obtain ⟨T56, X56, e56, st56⟩ := getS2 Xj48 hx hZ hown (host := "") (Or.inl (hw _ (List.mem_of_getElem? (i := 25) rfl))) Via.refl ej48 (own_sta_keep S_xd Kj48) (g := (mkF m 569 #[.val (.int p0), .val (.int p1), .val (.int p2), .val (.int p3), .val (.int p4), .val (.int p5), .val (.int fr), .val (.int wt), .val (.int hd), .val (.int ld), .val (.int pp), .val (.int qq), .val (.ref b4), .val (.int zb), .val (.int lb), .val (.int tov), s16, .val (.int (own_hx zb)), .val (.int (own_hx lb)), .val (.int (1 : Int32)), .val (.int sel), s21, .unset] [])) rfl (hb hby at_569)
            refine own_go st56 ?_
            refine own_go (T' := T56) (f' := (mkF m 607 #[.val (.int p0), .val (.int p1), .val (.int p2), .val (.int p3), .val (.int p4), .val (.int p5), .val (.int fr), .val (.int wt), .val (.int hd), .val (.int ld), .val (.int pp), .val (.int qq), .val (.ref b4), .val (.int zb), .val (.int lb), .val (.int tov), s16, .val (.int (own_hx zb)), .val (.int (own_hx lb)), .val (.int (1 : Int32)), .val (.int sel), .val (.ref xd), .unset] [(.int (fr + (32 : Int32))), (.int fr), (.ref b4), (.ref xd)])) (fun t kt => ?_) ?_
            · show Steps p.tables e below (T56.setTop (mkF m 572 #[.val (.int p0), .val (.int p1), .val (.int p2), .val (.int p3), .val (.int p4), .val (.int p5), .val (.int fr), .val (.int wt), .val (.int hd), .val (.int ld), .val (.int pp), .val (.int qq), .val (.ref b4), .val (.int zb), .val (.int lb), .val (.int tov), s16, .val (.int (own_hx zb)), .val (.int (own_hx lb)), .val (.int (1 : Int32)), .val (.int sel), s21, .unset] [(.ref xd)])) t
              refine XS.astoreS X56.here hx rfl (hb hby at_572) rfl rfl rfl rfl hs21 ?_
              show Steps p.tables e below (T56.setTop (mkF m 574 #[.val (.int p0), .val (.int p1), .val (.int p2), .val (.int p3), .val (.int p4), .val (.int p5), .val (.int fr), .val (.int wt), .val (.int hd), .val (.int ld), .val (.int pp), .val (.int qq), .val (.ref b4), .val (.int zb), .val (.int lb), .val (.int tov), s16, .val (.int (own_hx zb)), .val (.int (own_hx lb)), .val (.int (1 : Int32)), .val (.int sel), .val (.ref xd), .unset] [])) t
              refine XS.goto X56.here hx rfl (pc0 := 574) (pc' := 596) rfl (hb hby at_574) (by decide) (by decide) ?_
              show Steps p.tables e below (T56.setTop (mkF m 596 #[.val (.int p0), .val (.int p1), .val (.int p2), .val (.int p3), .val (.int p4), .val (.int p5), .val (.int fr), .val (.int wt), .val (.int hd), .val (.int ld), .val (.int pp), .val (.int qq), .val (.ref b4), .val (.int zb), .val (.int lb), .val (.int tov), s16, .val (.int (own_hx zb)), .val (.int (own_hx lb)), .val (.int (1 : Int32)), .val (.int sel), .val (.ref xd), .unset] [])) t
              refine XS.aload X56.here hx rfl (hb hby at_596) rfl rfl ?_
              show Steps p.tables e below (T56.setTop (mkF m 598 #[.val (.int p0), .val (.int p1), .val (.int p2), .val (.int p3), .val (.int p4), .val (.int p5), .val (.int fr), .val (.int wt), .val (.int hd), .val (.int ld), .val (.int pp), .val (.int qq), .val (.ref b4), .val (.int zb), .val (.int lb), .val (.int tov), s16, .val (.int (own_hx zb)), .val (.int (own_hx lb)), .val (.int (1 : Int32)), .val (.int sel), .val (.ref xd), .unset] [(.ref xd)])) t
              refine XS.aload X56.here hx rfl (hb hby at_598) rfl rfl ?_
              show Steps p.tables e below (T56.setTop (mkF m 600 #[.val (.int p0), .val (.int p1), .val (.int p2), .val (.int p3), .val (.int p4), .val (.int p5), .val (.int fr), .val (.int wt), .val (.int hd), .val (.int ld), .val (.int pp), .val (.int qq), .val (.ref b4), .val (.int zb), .val (.int lb), .val (.int tov), s16, .val (.int (own_hx zb)), .val (.int (own_hx lb)), .val (.int (1 : Int32)), .val (.int sel), .val (.ref xd), .unset] [(.ref b4), (.ref xd)])) t
              refine XS.iload X56.here hx rfl (hb hby at_600) rfl ?_
              show Steps p.tables e below (T56.setTop (mkF m 602 #[.val (.int p0), .val (.int p1), .val (.int p2), .val (.int p3), .val (.int p4), .val (.int p5), .val (.int fr), .val (.int wt), .val (.int hd), .val (.int ld), .val (.int pp), .val (.int qq), .val (.ref b4), .val (.int zb), .val (.int lb), .val (.int tov), s16, .val (.int (own_hx zb)), .val (.int (own_hx lb)), .val (.int (1 : Int32)), .val (.int sel), .val (.ref xd), .unset] [(.int fr), (.ref b4), (.ref xd)])) t
              refine XS.iload X56.here hx rfl (hb hby at_602) rfl ?_
              show Steps p.tables e below (T56.setTop (mkF m 604 #[.val (.int p0), .val (.int p1), .val (.int p2), .val (.int p3), .val (.int p4), .val (.int p5), .val (.int fr), .val (.int wt), .val (.int hd), .val (.int ld), .val (.int pp), .val (.int qq), .val (.ref b4), .val (.int zb), .val (.int lb), .val (.int tov), s16, .val (.int (own_hx zb)), .val (.int (own_hx lb)), .val (.int (1 : Int32)), .val (.int sel), .val (.ref xd), .unset] [(.int fr), (.int fr), (.ref b4), (.ref xd)])) t
              refine XS.bipush X56.here hx rfl (hb hby at_604) ?_
              show Steps p.tables e below (T56.setTop (mkF m 606 #[.val (.int p0), .val (.int p1), .val (.int p2), .val (.int p3), .val (.int p4), .val (.int p5), .val (.int fr), .val (.int wt), .val (.int hd), .val (.int ld), .val (.int pp), .val (.int qq), .val (.ref b4), .val (.int zb), .val (.int lb), .val (.int tov), s16, .val (.int (own_hx zb)), .val (.int (own_hx lb)), .val (.int (1 : Int32)), .val (.int sel), .val (.ref xd), .unset] [(.int (32 : Int32)), (.int fr), (.int fr), (.ref b4), (.ref xd)])) t
              refine XS.iadd X56.here hx rfl (hb hby at_606) rfl ?_
              show Steps p.tables e below (T56.setTop (mkF m 607 #[.val (.int p0), .val (.int p1), .val (.int p2), .val (.int p3), .val (.int p4), .val (.int p5), .val (.int fr), .val (.int wt), .val (.int hd), .val (.int ld), .val (.int pp), .val (.int qq), .val (.ref b4), .val (.int zb), .val (.int lb), .val (.int tov), s16, .val (.int (own_hx zb)), .val (.int (own_hx lb)), .val (.int (1 : Int32)), .val (.int sel), .val (.ref xd), .unset] [(.int (fr + (32 : Int32))), (.int fr), (.ref b4), (.ref xd)])) t
              exact kt
            refine own_callVp X56 hx hZ hown e56 (hw _ (List.mem_of_getElem? (i := 8) rfl)) (hw _ (List.mem_of_getElem? (i := 9) rfl)) (notFace_of_selects (args := #[]) (mvT hZ (hw _ (List.mem_of_getElem? (i := 11) rfl)))) (hw _ (List.mem_of_getElem? (i := 11) rfl)) (hw _ (List.mem_of_getElem? (i := 10) rfl)) (hw _ (List.mem_of_getElem? (i := 6) rfl)) (hw _ (List.mem_of_getElem? (i := 12) rfl)) (by decide) (rm2n l Z aw hw xd b4 fr (fr + (32 : Int32)) (32 : Int32) hj48 n0 Zj48 (F_xd.keep Kj48 nin0) (own_nl _ _ (by decide))) (E_xd.keep Kj48) (g := (mkF m 607 #[.val (.int p0), .val (.int p1), .val (.int p2), .val (.int p3), .val (.int p4), .val (.int p5), .val (.int fr), .val (.int wt), .val (.int hd), .val (.int ld), .val (.int pp), .val (.int qq), .val (.ref b4), .val (.int zb), .val (.int lb), .val (.int tov), s16, .val (.int (own_hx zb)), .val (.int (own_hx lb)), .val (.int (1 : Int32)), .val (.int sel), .val (.ref xd), .unset] [(.int (fr + (32 : Int32))), (.int fr), (.ref b4), (.ref xd)])) rfl (by rw [hml]; rfl) (argsL := [(.ref b4), (.int fr), (.int (fr + (32 : Int32)))]) (rest := []) (lenOf pd_7 rfl) rfl rfl (W := 0) (by show 2 * 0 + _ ≤ _; exact Nat.le_of_eq rfl) (hb hby at_607) (by decide) (by decide) (by decide) (by decide) ?_
            intro T57 X57 e57
            refine own_go (T' := T57) (f' := (mkF m 627 #[.val (.int p0), .val (.int p1), .val (.int p2), .val (.int p3), .val (.int p4), .val (.int p5), .val (.int fr), .val (.int wt), .val (.int hd), .val (.int ld), .val (.int pp), .val (.int qq), .val (.ref b4), .val (.int zb), .val (.int lb), .val (.int tov), s16, .val (.int (own_hx zb)), .val (.int (own_hx lb)), .val (.int (1 : Int32)), .val (.int sel), .val (.ref xd), .val .null] [(.int (1 : Int32))])) (fun t kt => ?_) ?_
            · show Steps p.tables e below (T57.setTop (mkF m 610 #[.val (.int p0), .val (.int p1), .val (.int p2), .val (.int p3), .val (.int p4), .val (.int p5), .val (.int fr), .val (.int wt), .val (.int hd), .val (.int ld), .val (.int pp), .val (.int qq), .val (.ref b4), .val (.int zb), .val (.int lb), .val (.int tov), s16, .val (.int (own_hx zb)), .val (.int (own_hx lb)), .val (.int (1 : Int32)), .val (.int sel), .val (.ref xd), .unset] [.null])) t
              refine XS.astore X57.here hx rfl (hb hby at_610) rfl rfl (l' := #[.val (.int p0), .val (.int p1), .val (.int p2), .val (.int p3), .val (.int p4), .val (.int p5), .val (.int fr), .val (.int wt), .val (.int hd), .val (.int ld), .val (.int pp), .val (.int qq), .val (.ref b4), .val (.int zb), .val (.int lb), .val (.int tov), s16, .val (.int (own_hx zb)), .val (.int (own_hx lb)), .val (.int (1 : Int32)), .val (.int sel), .val (.ref xd), .val .null]) rfl ?_
              show Steps p.tables e below (T57.setTop (mkF m 612 #[.val (.int p0), .val (.int p1), .val (.int p2), .val (.int p3), .val (.int p4), .val (.int p5), .val (.int fr), .val (.int wt), .val (.int hd), .val (.int ld), .val (.int pp), .val (.int qq), .val (.ref b4), .val (.int zb), .val (.int lb), .val (.int tov), s16, .val (.int (own_hx zb)), .val (.int (own_hx lb)), .val (.int (1 : Int32)), .val (.int sel), .val (.ref xd), .val .null] [])) t
              refine XS.iload X57.here hx rfl (hb hby at_612) rfl ?_
              show Steps p.tables e below (T57.setTop (mkF m 614 #[.val (.int p0), .val (.int p1), .val (.int p2), .val (.int p3), .val (.int p4), .val (.int p5), .val (.int fr), .val (.int wt), .val (.int hd), .val (.int ld), .val (.int pp), .val (.int qq), .val (.ref b4), .val (.int zb), .val (.int lb), .val (.int tov), s16, .val (.int (own_hx zb)), .val (.int (own_hx lb)), .val (.int (1 : Int32)), .val (.int sel), .val (.ref xd), .val .null] [(.int (1 : Int32))])) t
              refine XS.ifNo X57.here hx rfl (hb hby at_614) rfl (by decide) ?_
              show Steps p.tables e below (T57.setTop (mkF m 617 #[.val (.int p0), .val (.int p1), .val (.int p2), .val (.int p3), .val (.int p4), .val (.int p5), .val (.int fr), .val (.int wt), .val (.int hd), .val (.int ld), .val (.int pp), .val (.int qq), .val (.ref b4), .val (.int zb), .val (.int lb), .val (.int tov), s16, .val (.int (own_hx zb)), .val (.int (own_hx lb)), .val (.int (1 : Int32)), .val (.int sel), .val (.ref xd), .val .null] [])) t
              refine XS.aload X57.here hx rfl (hb hby at_617) rfl rfl ?_
              show Steps p.tables e below (T57.setTop (mkF m 619 #[.val (.int p0), .val (.int p1), .val (.int p2), .val (.int p3), .val (.int p4), .val (.int p5), .val (.int fr), .val (.int wt), .val (.int hd), .val (.int ld), .val (.int pp), .val (.int qq), .val (.ref b4), .val (.int zb), .val (.int lb), .val (.int tov), s16, .val (.int (own_hx zb)), .val (.int (own_hx lb)), .val (.int (1 : Int32)), .val (.int sel), .val (.ref xd), .val .null] [.null])) t
              refine XS.ifnonnullNo X57.here hx rfl (hb hby at_619) rfl ?_
              show Steps p.tables e below (T57.setTop (mkF m 622 #[.val (.int p0), .val (.int p1), .val (.int p2), .val (.int p3), .val (.int p4), .val (.int p5), .val (.int fr), .val (.int wt), .val (.int hd), .val (.int ld), .val (.int pp), .val (.int qq), .val (.ref b4), .val (.int zb), .val (.int lb), .val (.int tov), s16, .val (.int (own_hx zb)), .val (.int (own_hx lb)), .val (.int (1 : Int32)), .val (.int sel), .val (.ref xd), .val .null] [])) t
              refine XS.iconst X57.here hx rfl (hb hby at_622) ?_
              show Steps p.tables e below (T57.setTop (mkF m 623 #[.val (.int p0), .val (.int p1), .val (.int p2), .val (.int p3), .val (.int p4), .val (.int p5), .val (.int fr), .val (.int wt), .val (.int hd), .val (.int ld), .val (.int pp), .val (.int qq), .val (.ref b4), .val (.int zb), .val (.int lb), .val (.int tov), s16, .val (.int (own_hx zb)), .val (.int (own_hx lb)), .val (.int (1 : Int32)), .val (.int sel), .val (.ref xd), .val .null] [(.int (1 : Int32))])) t
              refine XS.goto X57.here hx rfl (pc0 := 623) (pc' := 627) rfl (hb hby at_623) (by decide) (by decide) ?_
              show Steps p.tables e below (T57.setTop (mkF m 627 #[.val (.int p0), .val (.int p1), .val (.int p2), .val (.int p3), .val (.int p4), .val (.int p5), .val (.int fr), .val (.int wt), .val (.int hd), .val (.int ld), .val (.int pp), .val (.int qq), .val (.ref b4), .val (.int zb), .val (.int lb), .val (.int tov), s16, .val (.int (own_hx zb)), .val (.int (own_hx lb)), .val (.int (1 : Int32)), .val (.int sel), .val (.ref xd), .val .null] [(.int (1 : Int32))])) t
              exact kt
            exact own_retNW X57 hP hx hlk e57 hS kzj48 (t := .boolean) hret (by simp) (hb hby at_627) (by decide) (by decide) (z' := (1 : Int32)) rfl ⟨rfl, Nj48⟩
          · refine own_go (T' := Tj48) (f' := (mkF m 580 #[.val (.int p0), .val (.int p1), .val (.int p2), .val (.int p3), .val (.int p4), .val (.int p5), .val (.int fr), .val (.int wt), .val (.int hd), .val (.int ld), .val (.int pp), .val (.int qq), .val (.ref b4), .val (.int zb), .val (.int lb), .val (.int tov), s16, .val (.int (own_hx zb)), .val (.int (own_hx lb)), .val (.int (1 : Int32)), .val (.int sel), s21, .unset] [(.int (3 : Int32)), (.int sel)])) (fun t kt => ?_) ?_
            · show Steps p.tables e below (Tj48.setTop (mkF m 566 #[.val (.int p0), .val (.int p1), .val (.int p2), .val (.int p3), .val (.int p4), .val (.int p5), .val (.int fr), .val (.int wt), .val (.int hd), .val (.int ld), .val (.int pp), .val (.int qq), .val (.ref b4), .val (.int zb), .val (.int lb), .val (.int tov), s16, .val (.int (own_hx zb)), .val (.int (own_hx lb)), .val (.int (1 : Int32)), .val (.int sel), s21, .unset] [(.int (2 : Int32)), (.int sel)])) t
              refine XS.icmpYes Xj48.here hx rfl (pc0 := 566) (pc' := 577) rfl (hb hby at_566) rfl (feq hc566_55).2 (by decide) (by decide) ?_
              show Steps p.tables e below (Tj48.setTop (mkF m 577 #[.val (.int p0), .val (.int p1), .val (.int p2), .val (.int p3), .val (.int p4), .val (.int p5), .val (.int fr), .val (.int wt), .val (.int hd), .val (.int ld), .val (.int pp), .val (.int qq), .val (.ref b4), .val (.int zb), .val (.int lb), .val (.int tov), s16, .val (.int (own_hx zb)), .val (.int (own_hx lb)), .val (.int (1 : Int32)), .val (.int sel), s21, .unset] [])) t
              refine XS.iload Xj48.here hx rfl (hb hby at_577) rfl ?_
              show Steps p.tables e below (Tj48.setTop (mkF m 579 #[.val (.int p0), .val (.int p1), .val (.int p2), .val (.int p3), .val (.int p4), .val (.int p5), .val (.int fr), .val (.int wt), .val (.int hd), .val (.int ld), .val (.int pp), .val (.int qq), .val (.ref b4), .val (.int zb), .val (.int lb), .val (.int tov), s16, .val (.int (own_hx zb)), .val (.int (own_hx lb)), .val (.int (1 : Int32)), .val (.int sel), s21, .unset] [(.int sel)])) t
              refine XS.iconst Xj48.here hx rfl (hb hby at_579) ?_
              show Steps p.tables e below (Tj48.setTop (mkF m 580 #[.val (.int p0), .val (.int p1), .val (.int p2), .val (.int p3), .val (.int p4), .val (.int p5), .val (.int fr), .val (.int wt), .val (.int hd), .val (.int ld), .val (.int pp), .val (.int qq), .val (.ref b4), .val (.int zb), .val (.int lb), .val (.int tov), s16, .val (.int (own_hx zb)), .val (.int (own_hx lb)), .val (.int (1 : Int32)), .val (.int sel), s21, .unset] [(.int (3 : Int32)), (.int sel)])) t
              exact kt
            by_cases hc580_58 : sel = (3 : Int32)
            · refine own_go (T' := Tj48) (f' := (mkF m 583 #[.val (.int p0), .val (.int p1), .val (.int p2), .val (.int p3), .val (.int p4), .val (.int p5), .val (.int fr), .val (.int wt), .val (.int hd), .val (.int ld), .val (.int pp), .val (.int qq), .val (.ref b4), .val (.int zb), .val (.int lb), .val (.int tov), s16, .val (.int (own_hx zb)), .val (.int (own_hx lb)), .val (.int (1 : Int32)), .val (.int sel), s21, .unset] [])) (fun t kt => ?_) ?_
              · show Steps p.tables e below (Tj48.setTop (mkF m 580 #[.val (.int p0), .val (.int p1), .val (.int p2), .val (.int p3), .val (.int p4), .val (.int p5), .val (.int fr), .val (.int wt), .val (.int hd), .val (.int ld), .val (.int pp), .val (.int qq), .val (.ref b4), .val (.int zb), .val (.int lb), .val (.int tov), s16, .val (.int (own_hx zb)), .val (.int (own_hx lb)), .val (.int (1 : Int32)), .val (.int sel), s21, .unset] [(.int (3 : Int32)), (.int sel)])) t
                refine XS.icmpNo Xj48.here hx rfl (hb hby at_580) rfl (teq hc580_58).2 ?_
                show Steps p.tables e below (Tj48.setTop (mkF m 583 #[.val (.int p0), .val (.int p1), .val (.int p2), .val (.int p3), .val (.int p4), .val (.int p5), .val (.int fr), .val (.int wt), .val (.int hd), .val (.int ld), .val (.int pp), .val (.int qq), .val (.ref b4), .val (.int zb), .val (.int lb), .val (.int tov), s16, .val (.int (own_hx zb)), .val (.int (own_hx lb)), .val (.int (1 : Int32)), .val (.int sel), s21, .unset] [])) t
                exact kt
              obtain ⟨T59, X59, e59, st59⟩ := getS2 Xj48 hx hZ hown (host := "") (Or.inl (hw _ (List.mem_of_getElem? (i := 23) rfl))) Via.refl ej48 (own_sta_keep S_xe Kj48) (g := (mkF m 583 #[.val (.int p0), .val (.int p1), .val (.int p2), .val (.int p3), .val (.int p4), .val (.int p5), .val (.int fr), .val (.int wt), .val (.int hd), .val (.int ld), .val (.int pp), .val (.int qq), .val (.ref b4), .val (.int zb), .val (.int lb), .val (.int tov), s16, .val (.int (own_hx zb)), .val (.int (own_hx lb)), .val (.int (1 : Int32)), .val (.int sel), s21, .unset] [])) rfl (hb hby at_583)
              refine own_go st59 ?_
              refine own_go (T' := T59) (f' := (mkF m 607 #[.val (.int p0), .val (.int p1), .val (.int p2), .val (.int p3), .val (.int p4), .val (.int p5), .val (.int fr), .val (.int wt), .val (.int hd), .val (.int ld), .val (.int pp), .val (.int qq), .val (.ref b4), .val (.int zb), .val (.int lb), .val (.int tov), s16, .val (.int (own_hx zb)), .val (.int (own_hx lb)), .val (.int (1 : Int32)), .val (.int sel), .val (.ref xe), .unset] [(.int (fr + (32 : Int32))), (.int fr), (.ref b4), (.ref xe)])) (fun t kt => ?_) ?_
              · show Steps p.tables e below (T59.setTop (mkF m 586 #[.val (.int p0), .val (.int p1), .val (.int p2), .val (.int p3), .val (.int p4), .val (.int p5), .val (.int fr), .val (.int wt), .val (.int hd), .val (.int ld), .val (.int pp), .val (.int qq), .val (.ref b4), .val (.int zb), .val (.int lb), .val (.int tov), s16, .val (.int (own_hx zb)), .val (.int (own_hx lb)), .val (.int (1 : Int32)), .val (.int sel), s21, .unset] [(.ref xe)])) t
                refine XS.astoreS X59.here hx rfl (hb hby at_586) rfl rfl rfl rfl hs21 ?_
                show Steps p.tables e below (T59.setTop (mkF m 588 #[.val (.int p0), .val (.int p1), .val (.int p2), .val (.int p3), .val (.int p4), .val (.int p5), .val (.int fr), .val (.int wt), .val (.int hd), .val (.int ld), .val (.int pp), .val (.int qq), .val (.ref b4), .val (.int zb), .val (.int lb), .val (.int tov), s16, .val (.int (own_hx zb)), .val (.int (own_hx lb)), .val (.int (1 : Int32)), .val (.int sel), .val (.ref xe), .unset] [])) t
                refine XS.goto X59.here hx rfl (pc0 := 588) (pc' := 596) rfl (hb hby at_588) (by decide) (by decide) ?_
                show Steps p.tables e below (T59.setTop (mkF m 596 #[.val (.int p0), .val (.int p1), .val (.int p2), .val (.int p3), .val (.int p4), .val (.int p5), .val (.int fr), .val (.int wt), .val (.int hd), .val (.int ld), .val (.int pp), .val (.int qq), .val (.ref b4), .val (.int zb), .val (.int lb), .val (.int tov), s16, .val (.int (own_hx zb)), .val (.int (own_hx lb)), .val (.int (1 : Int32)), .val (.int sel), .val (.ref xe), .unset] [])) t
                refine XS.aload X59.here hx rfl (hb hby at_596) rfl rfl ?_
                show Steps p.tables e below (T59.setTop (mkF m 598 #[.val (.int p0), .val (.int p1), .val (.int p2), .val (.int p3), .val (.int p4), .val (.int p5), .val (.int fr), .val (.int wt), .val (.int hd), .val (.int ld), .val (.int pp), .val (.int qq), .val (.ref b4), .val (.int zb), .val (.int lb), .val (.int tov), s16, .val (.int (own_hx zb)), .val (.int (own_hx lb)), .val (.int (1 : Int32)), .val (.int sel), .val (.ref xe), .unset] [(.ref xe)])) t
                refine XS.aload X59.here hx rfl (hb hby at_598) rfl rfl ?_
                show Steps p.tables e below (T59.setTop (mkF m 600 #[.val (.int p0), .val (.int p1), .val (.int p2), .val (.int p3), .val (.int p4), .val (.int p5), .val (.int fr), .val (.int wt), .val (.int hd), .val (.int ld), .val (.int pp), .val (.int qq), .val (.ref b4), .val (.int zb), .val (.int lb), .val (.int tov), s16, .val (.int (own_hx zb)), .val (.int (own_hx lb)), .val (.int (1 : Int32)), .val (.int sel), .val (.ref xe), .unset] [(.ref b4), (.ref xe)])) t
                refine XS.iload X59.here hx rfl (hb hby at_600) rfl ?_
                show Steps p.tables e below (T59.setTop (mkF m 602 #[.val (.int p0), .val (.int p1), .val (.int p2), .val (.int p3), .val (.int p4), .val (.int p5), .val (.int fr), .val (.int wt), .val (.int hd), .val (.int ld), .val (.int pp), .val (.int qq), .val (.ref b4), .val (.int zb), .val (.int lb), .val (.int tov), s16, .val (.int (own_hx zb)), .val (.int (own_hx lb)), .val (.int (1 : Int32)), .val (.int sel), .val (.ref xe), .unset] [(.int fr), (.ref b4), (.ref xe)])) t
                refine XS.iload X59.here hx rfl (hb hby at_602) rfl ?_
                show Steps p.tables e below (T59.setTop (mkF m 604 #[.val (.int p0), .val (.int p1), .val (.int p2), .val (.int p3), .val (.int p4), .val (.int p5), .val (.int fr), .val (.int wt), .val (.int hd), .val (.int ld), .val (.int pp), .val (.int qq), .val (.ref b4), .val (.int zb), .val (.int lb), .val (.int tov), s16, .val (.int (own_hx zb)), .val (.int (own_hx lb)), .val (.int (1 : Int32)), .val (.int sel), .val (.ref xe), .unset] [(.int fr), (.int fr), (.ref b4), (.ref xe)])) t
                refine XS.bipush X59.here hx rfl (hb hby at_604) ?_
                show Steps p.tables e below (T59.setTop (mkF m 606 #[.val (.int p0), .val (.int p1), .val (.int p2), .val (.int p3), .val (.int p4), .val (.int p5), .val (.int fr), .val (.int wt), .val (.int hd), .val (.int ld), .val (.int pp), .val (.int qq), .val (.ref b4), .val (.int zb), .val (.int lb), .val (.int tov), s16, .val (.int (own_hx zb)), .val (.int (own_hx lb)), .val (.int (1 : Int32)), .val (.int sel), .val (.ref xe), .unset] [(.int (32 : Int32)), (.int fr), (.int fr), (.ref b4), (.ref xe)])) t
                refine XS.iadd X59.here hx rfl (hb hby at_606) rfl ?_
                show Steps p.tables e below (T59.setTop (mkF m 607 #[.val (.int p0), .val (.int p1), .val (.int p2), .val (.int p3), .val (.int p4), .val (.int p5), .val (.int fr), .val (.int wt), .val (.int hd), .val (.int ld), .val (.int pp), .val (.int qq), .val (.ref b4), .val (.int zb), .val (.int lb), .val (.int tov), s16, .val (.int (own_hx zb)), .val (.int (own_hx lb)), .val (.int (1 : Int32)), .val (.int sel), .val (.ref xe), .unset] [(.int (fr + (32 : Int32))), (.int fr), (.ref b4), (.ref xe)])) t
                exact kt
              refine own_callVp X59 hx hZ hown e59 (hw _ (List.mem_of_getElem? (i := 8) rfl)) (hw _ (List.mem_of_getElem? (i := 9) rfl)) (notFace_of_selects (args := #[]) (mvT hZ (hw _ (List.mem_of_getElem? (i := 11) rfl)))) (hw _ (List.mem_of_getElem? (i := 11) rfl)) (hw _ (List.mem_of_getElem? (i := 10) rfl)) (hw _ (List.mem_of_getElem? (i := 6) rfl)) (hw _ (List.mem_of_getElem? (i := 12) rfl)) (by decide) (rm2n l Z aw hw xe b4 fr (fr + (32 : Int32)) (28 : Int32) hj48 n0 Zj48 (F_xe.keep Kj48 nin0) (own_nl _ _ (by decide))) (E_xe.keep Kj48) (g := (mkF m 607 #[.val (.int p0), .val (.int p1), .val (.int p2), .val (.int p3), .val (.int p4), .val (.int p5), .val (.int fr), .val (.int wt), .val (.int hd), .val (.int ld), .val (.int pp), .val (.int qq), .val (.ref b4), .val (.int zb), .val (.int lb), .val (.int tov), s16, .val (.int (own_hx zb)), .val (.int (own_hx lb)), .val (.int (1 : Int32)), .val (.int sel), .val (.ref xe), .unset] [(.int (fr + (32 : Int32))), (.int fr), (.ref b4), (.ref xe)])) rfl (by rw [hml]; rfl) (argsL := [(.ref b4), (.int fr), (.int (fr + (32 : Int32)))]) (rest := []) (lenOf pd_7 rfl) rfl rfl (W := 0) (by show 2 * 0 + _ ≤ _; exact Nat.le_of_eq rfl) (hb hby at_607) (by decide) (by decide) (by decide) (by decide) ?_
              intro T60 X60 e60
              refine own_go (T' := T60) (f' := (mkF m 627 #[.val (.int p0), .val (.int p1), .val (.int p2), .val (.int p3), .val (.int p4), .val (.int p5), .val (.int fr), .val (.int wt), .val (.int hd), .val (.int ld), .val (.int pp), .val (.int qq), .val (.ref b4), .val (.int zb), .val (.int lb), .val (.int tov), s16, .val (.int (own_hx zb)), .val (.int (own_hx lb)), .val (.int (1 : Int32)), .val (.int sel), .val (.ref xe), .val .null] [(.int (1 : Int32))])) (fun t kt => ?_) ?_
              · show Steps p.tables e below (T60.setTop (mkF m 610 #[.val (.int p0), .val (.int p1), .val (.int p2), .val (.int p3), .val (.int p4), .val (.int p5), .val (.int fr), .val (.int wt), .val (.int hd), .val (.int ld), .val (.int pp), .val (.int qq), .val (.ref b4), .val (.int zb), .val (.int lb), .val (.int tov), s16, .val (.int (own_hx zb)), .val (.int (own_hx lb)), .val (.int (1 : Int32)), .val (.int sel), .val (.ref xe), .unset] [.null])) t
                refine XS.astore X60.here hx rfl (hb hby at_610) rfl rfl (l' := #[.val (.int p0), .val (.int p1), .val (.int p2), .val (.int p3), .val (.int p4), .val (.int p5), .val (.int fr), .val (.int wt), .val (.int hd), .val (.int ld), .val (.int pp), .val (.int qq), .val (.ref b4), .val (.int zb), .val (.int lb), .val (.int tov), s16, .val (.int (own_hx zb)), .val (.int (own_hx lb)), .val (.int (1 : Int32)), .val (.int sel), .val (.ref xe), .val .null]) rfl ?_
                show Steps p.tables e below (T60.setTop (mkF m 612 #[.val (.int p0), .val (.int p1), .val (.int p2), .val (.int p3), .val (.int p4), .val (.int p5), .val (.int fr), .val (.int wt), .val (.int hd), .val (.int ld), .val (.int pp), .val (.int qq), .val (.ref b4), .val (.int zb), .val (.int lb), .val (.int tov), s16, .val (.int (own_hx zb)), .val (.int (own_hx lb)), .val (.int (1 : Int32)), .val (.int sel), .val (.ref xe), .val .null] [])) t
                refine XS.iload X60.here hx rfl (hb hby at_612) rfl ?_
                show Steps p.tables e below (T60.setTop (mkF m 614 #[.val (.int p0), .val (.int p1), .val (.int p2), .val (.int p3), .val (.int p4), .val (.int p5), .val (.int fr), .val (.int wt), .val (.int hd), .val (.int ld), .val (.int pp), .val (.int qq), .val (.ref b4), .val (.int zb), .val (.int lb), .val (.int tov), s16, .val (.int (own_hx zb)), .val (.int (own_hx lb)), .val (.int (1 : Int32)), .val (.int sel), .val (.ref xe), .val .null] [(.int (1 : Int32))])) t
                refine XS.ifNo X60.here hx rfl (hb hby at_614) rfl (by decide) ?_
                show Steps p.tables e below (T60.setTop (mkF m 617 #[.val (.int p0), .val (.int p1), .val (.int p2), .val (.int p3), .val (.int p4), .val (.int p5), .val (.int fr), .val (.int wt), .val (.int hd), .val (.int ld), .val (.int pp), .val (.int qq), .val (.ref b4), .val (.int zb), .val (.int lb), .val (.int tov), s16, .val (.int (own_hx zb)), .val (.int (own_hx lb)), .val (.int (1 : Int32)), .val (.int sel), .val (.ref xe), .val .null] [])) t
                refine XS.aload X60.here hx rfl (hb hby at_617) rfl rfl ?_
                show Steps p.tables e below (T60.setTop (mkF m 619 #[.val (.int p0), .val (.int p1), .val (.int p2), .val (.int p3), .val (.int p4), .val (.int p5), .val (.int fr), .val (.int wt), .val (.int hd), .val (.int ld), .val (.int pp), .val (.int qq), .val (.ref b4), .val (.int zb), .val (.int lb), .val (.int tov), s16, .val (.int (own_hx zb)), .val (.int (own_hx lb)), .val (.int (1 : Int32)), .val (.int sel), .val (.ref xe), .val .null] [.null])) t
                refine XS.ifnonnullNo X60.here hx rfl (hb hby at_619) rfl ?_
                show Steps p.tables e below (T60.setTop (mkF m 622 #[.val (.int p0), .val (.int p1), .val (.int p2), .val (.int p3), .val (.int p4), .val (.int p5), .val (.int fr), .val (.int wt), .val (.int hd), .val (.int ld), .val (.int pp), .val (.int qq), .val (.ref b4), .val (.int zb), .val (.int lb), .val (.int tov), s16, .val (.int (own_hx zb)), .val (.int (own_hx lb)), .val (.int (1 : Int32)), .val (.int sel), .val (.ref xe), .val .null] [])) t
                refine XS.iconst X60.here hx rfl (hb hby at_622) ?_
                show Steps p.tables e below (T60.setTop (mkF m 623 #[.val (.int p0), .val (.int p1), .val (.int p2), .val (.int p3), .val (.int p4), .val (.int p5), .val (.int fr), .val (.int wt), .val (.int hd), .val (.int ld), .val (.int pp), .val (.int qq), .val (.ref b4), .val (.int zb), .val (.int lb), .val (.int tov), s16, .val (.int (own_hx zb)), .val (.int (own_hx lb)), .val (.int (1 : Int32)), .val (.int sel), .val (.ref xe), .val .null] [(.int (1 : Int32))])) t
                refine XS.goto X60.here hx rfl (pc0 := 623) (pc' := 627) rfl (hb hby at_623) (by decide) (by decide) ?_
                show Steps p.tables e below (T60.setTop (mkF m 627 #[.val (.int p0), .val (.int p1), .val (.int p2), .val (.int p3), .val (.int p4), .val (.int p5), .val (.int fr), .val (.int wt), .val (.int hd), .val (.int ld), .val (.int pp), .val (.int qq), .val (.ref b4), .val (.int zb), .val (.int lb), .val (.int tov), s16, .val (.int (own_hx zb)), .val (.int (own_hx lb)), .val (.int (1 : Int32)), .val (.int sel), .val (.ref xe), .val .null] [(.int (1 : Int32))])) t
                exact kt
              exact own_retNW X60 hP hx hlk e60 hS kzj48 (t := .boolean) hret (by simp) (hb hby at_627) (by decide) (by decide) (z' := (1 : Int32)) rfl ⟨rfl, Nj48⟩
            · refine own_go (T' := Tj48) (f' := (mkF m 591 #[.val (.int p0), .val (.int p1), .val (.int p2), .val (.int p3), .val (.int p4), .val (.int p5), .val (.int fr), .val (.int wt), .val (.int hd), .val (.int ld), .val (.int pp), .val (.int qq), .val (.ref b4), .val (.int zb), .val (.int lb), .val (.int tov), s16, .val (.int (own_hx zb)), .val (.int (own_hx lb)), .val (.int (1 : Int32)), .val (.int sel), s21, .unset] [])) (fun t kt => ?_) ?_
              · show Steps p.tables e below (Tj48.setTop (mkF m 580 #[.val (.int p0), .val (.int p1), .val (.int p2), .val (.int p3), .val (.int p4), .val (.int p5), .val (.int fr), .val (.int wt), .val (.int hd), .val (.int ld), .val (.int pp), .val (.int qq), .val (.ref b4), .val (.int zb), .val (.int lb), .val (.int tov), s16, .val (.int (own_hx zb)), .val (.int (own_hx lb)), .val (.int (1 : Int32)), .val (.int sel), s21, .unset] [(.int (3 : Int32)), (.int sel)])) t
                refine XS.icmpYes Xj48.here hx rfl (pc0 := 580) (pc' := 591) rfl (hb hby at_580) rfl (feq hc580_58).2 (by decide) (by decide) ?_
                show Steps p.tables e below (Tj48.setTop (mkF m 591 #[.val (.int p0), .val (.int p1), .val (.int p2), .val (.int p3), .val (.int p4), .val (.int p5), .val (.int fr), .val (.int wt), .val (.int hd), .val (.int ld), .val (.int pp), .val (.int qq), .val (.ref b4), .val (.int zb), .val (.int lb), .val (.int tov), s16, .val (.int (own_hx zb)), .val (.int (own_hx lb)), .val (.int (1 : Int32)), .val (.int sel), s21, .unset] [])) t
                exact kt
              obtain ⟨T61, X61, e61, st61⟩ := getS2 Xj48 hx hZ hown (host := "") (Or.inl (hw _ (List.mem_of_getElem? (i := 60) rfl))) Via.refl ej48 (own_sta_keep S_xf Kj48) (g := (mkF m 591 #[.val (.int p0), .val (.int p1), .val (.int p2), .val (.int p3), .val (.int p4), .val (.int p5), .val (.int fr), .val (.int wt), .val (.int hd), .val (.int ld), .val (.int pp), .val (.int qq), .val (.ref b4), .val (.int zb), .val (.int lb), .val (.int tov), s16, .val (.int (own_hx zb)), .val (.int (own_hx lb)), .val (.int (1 : Int32)), .val (.int sel), s21, .unset] [])) rfl (hb hby at_591)
              refine own_go st61 ?_
              refine own_go (T' := T61) (f' := (mkF m 607 #[.val (.int p0), .val (.int p1), .val (.int p2), .val (.int p3), .val (.int p4), .val (.int p5), .val (.int fr), .val (.int wt), .val (.int hd), .val (.int ld), .val (.int pp), .val (.int qq), .val (.ref b4), .val (.int zb), .val (.int lb), .val (.int tov), s16, .val (.int (own_hx zb)), .val (.int (own_hx lb)), .val (.int (1 : Int32)), .val (.int sel), .val (.ref xf), .unset] [(.int (fr + (32 : Int32))), (.int fr), (.ref b4), (.ref xf)])) (fun t kt => ?_) ?_
              · show Steps p.tables e below (T61.setTop (mkF m 594 #[.val (.int p0), .val (.int p1), .val (.int p2), .val (.int p3), .val (.int p4), .val (.int p5), .val (.int fr), .val (.int wt), .val (.int hd), .val (.int ld), .val (.int pp), .val (.int qq), .val (.ref b4), .val (.int zb), .val (.int lb), .val (.int tov), s16, .val (.int (own_hx zb)), .val (.int (own_hx lb)), .val (.int (1 : Int32)), .val (.int sel), s21, .unset] [(.ref xf)])) t
                refine XS.astoreS X61.here hx rfl (hb hby at_594) rfl rfl rfl rfl hs21 ?_
                show Steps p.tables e below (T61.setTop (mkF m 596 #[.val (.int p0), .val (.int p1), .val (.int p2), .val (.int p3), .val (.int p4), .val (.int p5), .val (.int fr), .val (.int wt), .val (.int hd), .val (.int ld), .val (.int pp), .val (.int qq), .val (.ref b4), .val (.int zb), .val (.int lb), .val (.int tov), s16, .val (.int (own_hx zb)), .val (.int (own_hx lb)), .val (.int (1 : Int32)), .val (.int sel), .val (.ref xf), .unset] [])) t
                refine XS.aload X61.here hx rfl (hb hby at_596) rfl rfl ?_
                show Steps p.tables e below (T61.setTop (mkF m 598 #[.val (.int p0), .val (.int p1), .val (.int p2), .val (.int p3), .val (.int p4), .val (.int p5), .val (.int fr), .val (.int wt), .val (.int hd), .val (.int ld), .val (.int pp), .val (.int qq), .val (.ref b4), .val (.int zb), .val (.int lb), .val (.int tov), s16, .val (.int (own_hx zb)), .val (.int (own_hx lb)), .val (.int (1 : Int32)), .val (.int sel), .val (.ref xf), .unset] [(.ref xf)])) t
                refine XS.aload X61.here hx rfl (hb hby at_598) rfl rfl ?_
                show Steps p.tables e below (T61.setTop (mkF m 600 #[.val (.int p0), .val (.int p1), .val (.int p2), .val (.int p3), .val (.int p4), .val (.int p5), .val (.int fr), .val (.int wt), .val (.int hd), .val (.int ld), .val (.int pp), .val (.int qq), .val (.ref b4), .val (.int zb), .val (.int lb), .val (.int tov), s16, .val (.int (own_hx zb)), .val (.int (own_hx lb)), .val (.int (1 : Int32)), .val (.int sel), .val (.ref xf), .unset] [(.ref b4), (.ref xf)])) t
                refine XS.iload X61.here hx rfl (hb hby at_600) rfl ?_
                show Steps p.tables e below (T61.setTop (mkF m 602 #[.val (.int p0), .val (.int p1), .val (.int p2), .val (.int p3), .val (.int p4), .val (.int p5), .val (.int fr), .val (.int wt), .val (.int hd), .val (.int ld), .val (.int pp), .val (.int qq), .val (.ref b4), .val (.int zb), .val (.int lb), .val (.int tov), s16, .val (.int (own_hx zb)), .val (.int (own_hx lb)), .val (.int (1 : Int32)), .val (.int sel), .val (.ref xf), .unset] [(.int fr), (.ref b4), (.ref xf)])) t
                refine XS.iload X61.here hx rfl (hb hby at_602) rfl ?_
                show Steps p.tables e below (T61.setTop (mkF m 604 #[.val (.int p0), .val (.int p1), .val (.int p2), .val (.int p3), .val (.int p4), .val (.int p5), .val (.int fr), .val (.int wt), .val (.int hd), .val (.int ld), .val (.int pp), .val (.int qq), .val (.ref b4), .val (.int zb), .val (.int lb), .val (.int tov), s16, .val (.int (own_hx zb)), .val (.int (own_hx lb)), .val (.int (1 : Int32)), .val (.int sel), .val (.ref xf), .unset] [(.int fr), (.int fr), (.ref b4), (.ref xf)])) t
                refine XS.bipush X61.here hx rfl (hb hby at_604) ?_
                show Steps p.tables e below (T61.setTop (mkF m 606 #[.val (.int p0), .val (.int p1), .val (.int p2), .val (.int p3), .val (.int p4), .val (.int p5), .val (.int fr), .val (.int wt), .val (.int hd), .val (.int ld), .val (.int pp), .val (.int qq), .val (.ref b4), .val (.int zb), .val (.int lb), .val (.int tov), s16, .val (.int (own_hx zb)), .val (.int (own_hx lb)), .val (.int (1 : Int32)), .val (.int sel), .val (.ref xf), .unset] [(.int (32 : Int32)), (.int fr), (.int fr), (.ref b4), (.ref xf)])) t
                refine XS.iadd X61.here hx rfl (hb hby at_606) rfl ?_
                show Steps p.tables e below (T61.setTop (mkF m 607 #[.val (.int p0), .val (.int p1), .val (.int p2), .val (.int p3), .val (.int p4), .val (.int p5), .val (.int fr), .val (.int wt), .val (.int hd), .val (.int ld), .val (.int pp), .val (.int qq), .val (.ref b4), .val (.int zb), .val (.int lb), .val (.int tov), s16, .val (.int (own_hx zb)), .val (.int (own_hx lb)), .val (.int (1 : Int32)), .val (.int sel), .val (.ref xf), .unset] [(.int (fr + (32 : Int32))), (.int fr), (.ref b4), (.ref xf)])) t
                exact kt
              refine own_callVp X61 hx hZ hown e61 (hw _ (List.mem_of_getElem? (i := 8) rfl)) (hw _ (List.mem_of_getElem? (i := 9) rfl)) (notFace_of_selects (args := #[]) (mvT hZ (hw _ (List.mem_of_getElem? (i := 11) rfl)))) (hw _ (List.mem_of_getElem? (i := 11) rfl)) (hw _ (List.mem_of_getElem? (i := 10) rfl)) (hw _ (List.mem_of_getElem? (i := 6) rfl)) (hw _ (List.mem_of_getElem? (i := 12) rfl)) (by decide) (rm2n l Z aw hw xf b4 fr (fr + (32 : Int32)) (20 : Int32) hj48 n0 Zj48 (F_xf.keep Kj48 nin0) (own_nl _ _ (by decide))) (E_xf.keep Kj48) (g := (mkF m 607 #[.val (.int p0), .val (.int p1), .val (.int p2), .val (.int p3), .val (.int p4), .val (.int p5), .val (.int fr), .val (.int wt), .val (.int hd), .val (.int ld), .val (.int pp), .val (.int qq), .val (.ref b4), .val (.int zb), .val (.int lb), .val (.int tov), s16, .val (.int (own_hx zb)), .val (.int (own_hx lb)), .val (.int (1 : Int32)), .val (.int sel), .val (.ref xf), .unset] [(.int (fr + (32 : Int32))), (.int fr), (.ref b4), (.ref xf)])) rfl (by rw [hml]; rfl) (argsL := [(.ref b4), (.int fr), (.int (fr + (32 : Int32)))]) (rest := []) (lenOf pd_7 rfl) rfl rfl (W := 0) (by show 2 * 0 + _ ≤ _; exact Nat.le_of_eq rfl) (hb hby at_607) (by decide) (by decide) (by decide) (by decide) ?_
              intro T62 X62 e62
              refine own_go (T' := T62) (f' := (mkF m 627 #[.val (.int p0), .val (.int p1), .val (.int p2), .val (.int p3), .val (.int p4), .val (.int p5), .val (.int fr), .val (.int wt), .val (.int hd), .val (.int ld), .val (.int pp), .val (.int qq), .val (.ref b4), .val (.int zb), .val (.int lb), .val (.int tov), s16, .val (.int (own_hx zb)), .val (.int (own_hx lb)), .val (.int (1 : Int32)), .val (.int sel), .val (.ref xf), .val .null] [(.int (1 : Int32))])) (fun t kt => ?_) ?_
              · show Steps p.tables e below (T62.setTop (mkF m 610 #[.val (.int p0), .val (.int p1), .val (.int p2), .val (.int p3), .val (.int p4), .val (.int p5), .val (.int fr), .val (.int wt), .val (.int hd), .val (.int ld), .val (.int pp), .val (.int qq), .val (.ref b4), .val (.int zb), .val (.int lb), .val (.int tov), s16, .val (.int (own_hx zb)), .val (.int (own_hx lb)), .val (.int (1 : Int32)), .val (.int sel), .val (.ref xf), .unset] [.null])) t
                refine XS.astore X62.here hx rfl (hb hby at_610) rfl rfl (l' := #[.val (.int p0), .val (.int p1), .val (.int p2), .val (.int p3), .val (.int p4), .val (.int p5), .val (.int fr), .val (.int wt), .val (.int hd), .val (.int ld), .val (.int pp), .val (.int qq), .val (.ref b4), .val (.int zb), .val (.int lb), .val (.int tov), s16, .val (.int (own_hx zb)), .val (.int (own_hx lb)), .val (.int (1 : Int32)), .val (.int sel), .val (.ref xf), .val .null]) rfl ?_
                show Steps p.tables e below (T62.setTop (mkF m 612 #[.val (.int p0), .val (.int p1), .val (.int p2), .val (.int p3), .val (.int p4), .val (.int p5), .val (.int fr), .val (.int wt), .val (.int hd), .val (.int ld), .val (.int pp), .val (.int qq), .val (.ref b4), .val (.int zb), .val (.int lb), .val (.int tov), s16, .val (.int (own_hx zb)), .val (.int (own_hx lb)), .val (.int (1 : Int32)), .val (.int sel), .val (.ref xf), .val .null] [])) t
                refine XS.iload X62.here hx rfl (hb hby at_612) rfl ?_
                show Steps p.tables e below (T62.setTop (mkF m 614 #[.val (.int p0), .val (.int p1), .val (.int p2), .val (.int p3), .val (.int p4), .val (.int p5), .val (.int fr), .val (.int wt), .val (.int hd), .val (.int ld), .val (.int pp), .val (.int qq), .val (.ref b4), .val (.int zb), .val (.int lb), .val (.int tov), s16, .val (.int (own_hx zb)), .val (.int (own_hx lb)), .val (.int (1 : Int32)), .val (.int sel), .val (.ref xf), .val .null] [(.int (1 : Int32))])) t
                refine XS.ifNo X62.here hx rfl (hb hby at_614) rfl (by decide) ?_
                show Steps p.tables e below (T62.setTop (mkF m 617 #[.val (.int p0), .val (.int p1), .val (.int p2), .val (.int p3), .val (.int p4), .val (.int p5), .val (.int fr), .val (.int wt), .val (.int hd), .val (.int ld), .val (.int pp), .val (.int qq), .val (.ref b4), .val (.int zb), .val (.int lb), .val (.int tov), s16, .val (.int (own_hx zb)), .val (.int (own_hx lb)), .val (.int (1 : Int32)), .val (.int sel), .val (.ref xf), .val .null] [])) t
                refine XS.aload X62.here hx rfl (hb hby at_617) rfl rfl ?_
                show Steps p.tables e below (T62.setTop (mkF m 619 #[.val (.int p0), .val (.int p1), .val (.int p2), .val (.int p3), .val (.int p4), .val (.int p5), .val (.int fr), .val (.int wt), .val (.int hd), .val (.int ld), .val (.int pp), .val (.int qq), .val (.ref b4), .val (.int zb), .val (.int lb), .val (.int tov), s16, .val (.int (own_hx zb)), .val (.int (own_hx lb)), .val (.int (1 : Int32)), .val (.int sel), .val (.ref xf), .val .null] [.null])) t
                refine XS.ifnonnullNo X62.here hx rfl (hb hby at_619) rfl ?_
                show Steps p.tables e below (T62.setTop (mkF m 622 #[.val (.int p0), .val (.int p1), .val (.int p2), .val (.int p3), .val (.int p4), .val (.int p5), .val (.int fr), .val (.int wt), .val (.int hd), .val (.int ld), .val (.int pp), .val (.int qq), .val (.ref b4), .val (.int zb), .val (.int lb), .val (.int tov), s16, .val (.int (own_hx zb)), .val (.int (own_hx lb)), .val (.int (1 : Int32)), .val (.int sel), .val (.ref xf), .val .null] [])) t
                refine XS.iconst X62.here hx rfl (hb hby at_622) ?_
                show Steps p.tables e below (T62.setTop (mkF m 623 #[.val (.int p0), .val (.int p1), .val (.int p2), .val (.int p3), .val (.int p4), .val (.int p5), .val (.int fr), .val (.int wt), .val (.int hd), .val (.int ld), .val (.int pp), .val (.int qq), .val (.ref b4), .val (.int zb), .val (.int lb), .val (.int tov), s16, .val (.int (own_hx zb)), .val (.int (own_hx lb)), .val (.int (1 : Int32)), .val (.int sel), .val (.ref xf), .val .null] [(.int (1 : Int32))])) t
                refine XS.goto X62.here hx rfl (pc0 := 623) (pc' := 627) rfl (hb hby at_623) (by decide) (by decide) ?_
                show Steps p.tables e below (T62.setTop (mkF m 627 #[.val (.int p0), .val (.int p1), .val (.int p2), .val (.int p3), .val (.int p4), .val (.int p5), .val (.int fr), .val (.int wt), .val (.int hd), .val (.int ld), .val (.int pp), .val (.int qq), .val (.ref b4), .val (.int zb), .val (.int lb), .val (.int tov), s16, .val (.int (own_hx zb)), .val (.int (own_hx lb)), .val (.int (1 : Int32)), .val (.int sel), .val (.ref xf), .val .null] [(.int (1 : Int32))])) t
                exact kt
              exact own_retNW X62 hP hx hlk e62 hS kzj48 (t := .boolean) hret (by simp) (hb hby at_627) (by decide) (by decide) (z' := (1 : Int32)) rfl ⟨rfl, Nj48⟩
    obtain ⟨T63, X63, e63, st63⟩ := getS2 Xj46 hx hZ hown (host := "") (Or.inl (hw _ (List.mem_of_getElem? (i := 5) rfl))) Via.refl ej46 (own_sta_keep S_xa Kj46) (g := (mkF m 370 #[.val (.int p0), .val (.int p1), .val (.int p2), .val (.int p3), .val (.int p4), .val (.int p5), .val (.int fr), .val (.int wt), .val (.int hd), .val (.int ld), .val (.int pp), .val (.int qq), .val (.ref b4), .val (.int zb), .val (.int lb), .val (.int tov), .unset, .unset, .unset, .unset, .unset, .unset, .unset] [])) rfl (hb hby at_370)
    refine own_go st63 ?_
    refine own_go (T' := T63) (f' := (mkF m 379 #[.val (.int p0), .val (.int p1), .val (.int p2), .val (.int p3), .val (.int p4), .val (.int p5), .val (.int fr), .val (.int wt), .val (.int hd), .val (.int ld), .val (.int pp), .val (.int qq), .val (.ref b4), .val (.int zb), .val (.int lb), .val (.int tov), .unset, .unset, .unset, .unset, .unset, .unset, .unset] [(.int tov), (.int fr), (.ref b4), (.ref xa)])) (fun t kt => ?_) ?_
    · show Steps p.tables e below (T63.setTop (mkF m 373 #[.val (.int p0), .val (.int p1), .val (.int p2), .val (.int p3), .val (.int p4), .val (.int p5), .val (.int fr), .val (.int wt), .val (.int hd), .val (.int ld), .val (.int pp), .val (.int qq), .val (.ref b4), .val (.int zb), .val (.int lb), .val (.int tov), .unset, .unset, .unset, .unset, .unset, .unset, .unset] [(.ref xa)])) t
      refine XS.aload X63.here hx rfl (hb hby at_373) rfl rfl ?_
      show Steps p.tables e below (T63.setTop (mkF m 375 #[.val (.int p0), .val (.int p1), .val (.int p2), .val (.int p3), .val (.int p4), .val (.int p5), .val (.int fr), .val (.int wt), .val (.int hd), .val (.int ld), .val (.int pp), .val (.int qq), .val (.ref b4), .val (.int zb), .val (.int lb), .val (.int tov), .unset, .unset, .unset, .unset, .unset, .unset, .unset] [(.ref b4), (.ref xa)])) t
      refine XS.iload X63.here hx rfl (hb hby at_375) rfl ?_
      show Steps p.tables e below (T63.setTop (mkF m 377 #[.val (.int p0), .val (.int p1), .val (.int p2), .val (.int p3), .val (.int p4), .val (.int p5), .val (.int fr), .val (.int wt), .val (.int hd), .val (.int ld), .val (.int pp), .val (.int qq), .val (.ref b4), .val (.int zb), .val (.int lb), .val (.int tov), .unset, .unset, .unset, .unset, .unset, .unset, .unset] [(.int fr), (.ref b4), (.ref xa)])) t
      refine XS.iload X63.here hx rfl (hb hby at_377) rfl ?_
      show Steps p.tables e below (T63.setTop (mkF m 379 #[.val (.int p0), .val (.int p1), .val (.int p2), .val (.int p3), .val (.int p4), .val (.int p5), .val (.int fr), .val (.int wt), .val (.int hd), .val (.int ld), .val (.int pp), .val (.int qq), .val (.ref b4), .val (.int zb), .val (.int lb), .val (.int tov), .unset, .unset, .unset, .unset, .unset, .unset, .unset] [(.int tov), (.int fr), (.ref b4), (.ref xa)])) t
      exact kt
    by_cases h32 : (tov - fr) = (32 : Int32)
    · by_cases hhv : (own_hx zb) < (0 : Int32)
      · refine own_callV X63 hx hZ hown e63 (hw _ (List.mem_of_getElem? (i := 8) rfl)) (hw _ (List.mem_of_getElem? (i := 9) rfl)) (notFace_of_selects (args := #[]) (mvT hZ (hw _ (List.mem_of_getElem? (i := 11) rfl)))) (hw _ (List.mem_of_getElem? (i := 11) rfl)) (hw _ (List.mem_of_getElem? (i := 10) rfl)) (hw _ (List.mem_of_getElem? (i := 6) rfl)) (hw _ (List.mem_of_getElem? (i := 12) rfl)) (by decide) (rm2w l Z aw hw xa b4 fr tov fl k hxa hj46 n0 Zj46 (F_xa.keep Kj46 nin0) fj46_0 (own_sta_keep SX Kj46) (HX.keep Kj46 (by simp)) hk hk3 (h32.trans (by decide)) hfl.2.2.1 (own_bad_no hfl hkp15 (Or.inl hhv))) (E_xa.keep Kj46) (g := (mkF m 379 #[.val (.int p0), .val (.int p1), .val (.int p2), .val (.int p3), .val (.int p4), .val (.int p5), .val (.int fr), .val (.int wt), .val (.int hd), .val (.int ld), .val (.int pp), .val (.int qq), .val (.ref b4), .val (.int zb), .val (.int lb), .val (.int tov), .unset, .unset, .unset, .unset, .unset, .unset, .unset] [(.int tov), (.int fr), (.ref b4), (.ref xa)])) rfl (by rw [hml]; rfl) (argsL := [(.ref b4), (.int fr), (.int tov)]) (rest := []) (lenOf pd_7 rfl) rfl rfl (W := 0) (by show 2 * 0 + _ ≤ _; exact Nat.le_of_eq rfl) (hb hby at_379) (by decide) (by decide) (by decide) (by decide) ?_
        rintro _ T64 L64 X64 ⟨rfl, Nq64, Kq64⟩
        have N64 := Fr.app Nj46 Nq64
        replace fj46_0 := (fj46_0.keep Kq64 nin0)
        have f65 := ((E_xa.keep Kj46).keep Kq64)
        have f66 := ((F_xa.keep Kj46 nin0).keep Kq64 nin0)
        have ZKq64 : n0 ≤ T64.heap.size := Nat.le_trans Zj46 Kq64.1
        have KKKq64 := Kj46.trans Kq64 (all0)
        have kzKq64 := Nat.le_trans kzj46 Kq64.1
        refine own_go (T' := T64) (f' := (mkF m 386 #[.val (.int p0), .val (.int p1), .val (.int p2), .val (.int p3), .val (.int p4), .val (.int p5), .val (.int fr), .val (.int wt), .val (.int hd), .val (.int ld), .val (.int pp), .val (.int qq), .val (.ref b4), .val (.int zb), .val (.int lb), .val (.int tov), .val .null, .unset, .unset, .unset, .unset, .unset, .unset] [(.int zb)])) (fun t kt => ?_) ?_
        · show Steps p.tables e below (T64.setTop (mkF m 382 #[.val (.int p0), .val (.int p1), .val (.int p2), .val (.int p3), .val (.int p4), .val (.int p5), .val (.int fr), .val (.int wt), .val (.int hd), .val (.int ld), .val (.int pp), .val (.int qq), .val (.ref b4), .val (.int zb), .val (.int lb), .val (.int tov), .unset, .unset, .unset, .unset, .unset, .unset, .unset] [.null])) t
          refine XS.astore X64.here hx rfl (hb hby at_382) rfl rfl (l' := #[.val (.int p0), .val (.int p1), .val (.int p2), .val (.int p3), .val (.int p4), .val (.int p5), .val (.int fr), .val (.int wt), .val (.int hd), .val (.int ld), .val (.int pp), .val (.int qq), .val (.ref b4), .val (.int zb), .val (.int lb), .val (.int tov), .val .null, .unset, .unset, .unset, .unset, .unset, .unset]) rfl ?_
          show Steps p.tables e below (T64.setTop (mkF m 384 #[.val (.int p0), .val (.int p1), .val (.int p2), .val (.int p3), .val (.int p4), .val (.int p5), .val (.int fr), .val (.int wt), .val (.int hd), .val (.int ld), .val (.int pp), .val (.int qq), .val (.ref b4), .val (.int zb), .val (.int lb), .val (.int tov), .val .null, .unset, .unset, .unset, .unset, .unset, .unset] [])) t
          refine XS.iload X64.here hx rfl (hb hby at_384) rfl ?_
          show Steps p.tables e below (T64.setTop (mkF m 386 #[.val (.int p0), .val (.int p1), .val (.int p2), .val (.int p3), .val (.int p4), .val (.int p5), .val (.int fr), .val (.int wt), .val (.int hd), .val (.int ld), .val (.int pp), .val (.int qq), .val (.ref b4), .val (.int zb), .val (.int lb), .val (.int tov), .val .null, .unset, .unset, .unset, .unset, .unset, .unset] [(.int zb)])) t
          exact kt
        refine own_callSp X64 hx hZ hown rfl (hw _ (List.mem_of_getElem? (i := 20) rfl)) (hw _ (List.mem_of_getElem? (i := 21) rfl)) (hw _ (List.mem_of_getElem? (i := 3) rfl)) (hw _ (List.mem_of_getElem? (i := 22) rfl)) (by decide) (rm4 l Z aw hw zb T64.heap n0 ZKq64) (g := (mkF m 386 #[.val (.int p0), .val (.int p1), .val (.int p2), .val (.int p3), .val (.int p4), .val (.int p5), .val (.int fr), .val (.int wt), .val (.int hd), .val (.int ld), .val (.int pp), .val (.int qq), .val (.ref b4), .val (.int zb), .val (.int lb), .val (.int tov), .val .null, .unset, .unset, .unset, .unset, .unset, .unset] [(.int zb)])) rfl (by rw [hml]; rfl) (argsL := [(.int zb)]) (rest := []) (lenOf pd_5 rfl) rfl rfl (W := 0) (by show 2 * 0 + _ ≤ _; exact Nat.le_of_eq rfl) (hb hby at_386) (by decide) (by decide) (by decide) (by decide) ?_
        intro T67 X67 e67
        refine own_go (T' := T67) (f' := (mkF m 393 #[.val (.int p0), .val (.int p1), .val (.int p2), .val (.int p3), .val (.int p4), .val (.int p5), .val (.int fr), .val (.int wt), .val (.int hd), .val (.int ld), .val (.int pp), .val (.int qq), .val (.ref b4), .val (.int zb), .val (.int lb), .val (.int tov), .val .null, .val (.int (own_hx zb)), .unset, .unset, .unset, .unset, .unset] [(.int lb)])) (fun t kt => ?_) ?_
        · show Steps p.tables e below (T67.setTop (mkF m 389 #[.val (.int p0), .val (.int p1), .val (.int p2), .val (.int p3), .val (.int p4), .val (.int p5), .val (.int fr), .val (.int wt), .val (.int hd), .val (.int ld), .val (.int pp), .val (.int qq), .val (.ref b4), .val (.int zb), .val (.int lb), .val (.int tov), .val .null, .unset, .unset, .unset, .unset, .unset, .unset] [(.int (own_hx zb))])) t
          refine XS.istore X67.here hx rfl (hb hby at_389) rfl (l' := #[.val (.int p0), .val (.int p1), .val (.int p2), .val (.int p3), .val (.int p4), .val (.int p5), .val (.int fr), .val (.int wt), .val (.int hd), .val (.int ld), .val (.int pp), .val (.int qq), .val (.ref b4), .val (.int zb), .val (.int lb), .val (.int tov), .val .null, .val (.int (own_hx zb)), .unset, .unset, .unset, .unset, .unset]) rfl ?_
          show Steps p.tables e below (T67.setTop (mkF m 391 #[.val (.int p0), .val (.int p1), .val (.int p2), .val (.int p3), .val (.int p4), .val (.int p5), .val (.int fr), .val (.int wt), .val (.int hd), .val (.int ld), .val (.int pp), .val (.int qq), .val (.ref b4), .val (.int zb), .val (.int lb), .val (.int tov), .val .null, .val (.int (own_hx zb)), .unset, .unset, .unset, .unset, .unset] [])) t
          refine XS.iload X67.here hx rfl (hb hby at_391) rfl ?_
          show Steps p.tables e below (T67.setTop (mkF m 393 #[.val (.int p0), .val (.int p1), .val (.int p2), .val (.int p3), .val (.int p4), .val (.int p5), .val (.int fr), .val (.int wt), .val (.int hd), .val (.int ld), .val (.int pp), .val (.int qq), .val (.ref b4), .val (.int zb), .val (.int lb), .val (.int tov), .val .null, .val (.int (own_hx zb)), .unset, .unset, .unset, .unset, .unset] [(.int lb)])) t
          exact kt
        refine own_callSp X67 hx hZ hown e67 (hw _ (List.mem_of_getElem? (i := 20) rfl)) (hw _ (List.mem_of_getElem? (i := 21) rfl)) (hw _ (List.mem_of_getElem? (i := 3) rfl)) (hw _ (List.mem_of_getElem? (i := 22) rfl)) (by decide) (rm4 l Z aw hw lb T64.heap n0 ZKq64) (g := (mkF m 393 #[.val (.int p0), .val (.int p1), .val (.int p2), .val (.int p3), .val (.int p4), .val (.int p5), .val (.int fr), .val (.int wt), .val (.int hd), .val (.int ld), .val (.int pp), .val (.int qq), .val (.ref b4), .val (.int zb), .val (.int lb), .val (.int tov), .val .null, .val (.int (own_hx zb)), .unset, .unset, .unset, .unset, .unset] [(.int lb)])) rfl (by rw [hml]; rfl) (argsL := [(.int lb)]) (rest := []) (lenOf pd_5 rfl) rfl rfl (W := 0) (by show 2 * 0 + _ ≤ _; exact Nat.le_of_eq rfl) (hb hby at_393) (by decide) (by decide) (by decide) (by decide) ?_
        intro T68 X68 e68
        refine own_go (T' := T68) (f' := (mkF m 529 #[.val (.int p0), .val (.int p1), .val (.int p2), .val (.int p3), .val (.int p4), .val (.int p5), .val (.int fr), .val (.int wt), .val (.int hd), .val (.int ld), .val (.int pp), .val (.int qq), .val (.ref b4), .val (.int zb), .val (.int lb), .val (.int tov), .val .null, .val (.int (own_hx zb)), .val (.int (own_hx lb)), .val (.int (1 : Int32)), .unset, .unset, .unset] [])) (fun t kt => ?_) ?_
        · show Steps p.tables e below (T68.setTop (mkF m 396 #[.val (.int p0), .val (.int p1), .val (.int p2), .val (.int p3), .val (.int p4), .val (.int p5), .val (.int fr), .val (.int wt), .val (.int hd), .val (.int ld), .val (.int pp), .val (.int qq), .val (.ref b4), .val (.int zb), .val (.int lb), .val (.int tov), .val .null, .val (.int (own_hx zb)), .unset, .unset, .unset, .unset, .unset] [(.int (own_hx lb))])) t
          refine XS.istore X68.here hx rfl (hb hby at_396) rfl (l' := #[.val (.int p0), .val (.int p1), .val (.int p2), .val (.int p3), .val (.int p4), .val (.int p5), .val (.int fr), .val (.int wt), .val (.int hd), .val (.int ld), .val (.int pp), .val (.int qq), .val (.ref b4), .val (.int zb), .val (.int lb), .val (.int tov), .val .null, .val (.int (own_hx zb)), .val (.int (own_hx lb)), .unset, .unset, .unset, .unset]) rfl ?_
          show Steps p.tables e below (T68.setTop (mkF m 398 #[.val (.int p0), .val (.int p1), .val (.int p2), .val (.int p3), .val (.int p4), .val (.int p5), .val (.int fr), .val (.int wt), .val (.int hd), .val (.int ld), .val (.int pp), .val (.int qq), .val (.ref b4), .val (.int zb), .val (.int lb), .val (.int tov), .val .null, .val (.int (own_hx zb)), .val (.int (own_hx lb)), .unset, .unset, .unset, .unset] [])) t
          refine XS.iload X68.here hx rfl (hb hby at_398) rfl ?_
          show Steps p.tables e below (T68.setTop (mkF m 400 #[.val (.int p0), .val (.int p1), .val (.int p2), .val (.int p3), .val (.int p4), .val (.int p5), .val (.int fr), .val (.int wt), .val (.int hd), .val (.int ld), .val (.int pp), .val (.int qq), .val (.ref b4), .val (.int zb), .val (.int lb), .val (.int tov), .val .null, .val (.int (own_hx zb)), .val (.int (own_hx lb)), .unset, .unset, .unset, .unset] [(.int tov)])) t
          refine XS.iload X68.here hx rfl (hb hby at_400) rfl ?_
          show Steps p.tables e below (T68.setTop (mkF m 402 #[.val (.int p0), .val (.int p1), .val (.int p2), .val (.int p3), .val (.int p4), .val (.int p5), .val (.int fr), .val (.int wt), .val (.int hd), .val (.int ld), .val (.int pp), .val (.int qq), .val (.ref b4), .val (.int zb), .val (.int lb), .val (.int tov), .val .null, .val (.int (own_hx zb)), .val (.int (own_hx lb)), .unset, .unset, .unset, .unset] [(.int fr), (.int tov)])) t
          refine XS.isub X68.here hx rfl (hb hby at_402) rfl ?_
          show Steps p.tables e below (T68.setTop (mkF m 403 #[.val (.int p0), .val (.int p1), .val (.int p2), .val (.int p3), .val (.int p4), .val (.int p5), .val (.int fr), .val (.int wt), .val (.int hd), .val (.int ld), .val (.int pp), .val (.int qq), .val (.ref b4), .val (.int zb), .val (.int lb), .val (.int tov), .val .null, .val (.int (own_hx zb)), .val (.int (own_hx lb)), .unset, .unset, .unset, .unset] [(.int (tov - fr))])) t
          refine XS.bipush X68.here hx rfl (hb hby at_403) ?_
          show Steps p.tables e below (T68.setTop (mkF m 405 #[.val (.int p0), .val (.int p1), .val (.int p2), .val (.int p3), .val (.int p4), .val (.int p5), .val (.int fr), .val (.int wt), .val (.int hd), .val (.int ld), .val (.int pp), .val (.int qq), .val (.ref b4), .val (.int zb), .val (.int lb), .val (.int tov), .val .null, .val (.int (own_hx zb)), .val (.int (own_hx lb)), .unset, .unset, .unset, .unset] [(.int (32 : Int32)), (.int (tov - fr))])) t
          refine XS.icmpNo X68.here hx rfl (hb hby at_405) rfl (teq h32).2 ?_
          show Steps p.tables e below (T68.setTop (mkF m 408 #[.val (.int p0), .val (.int p1), .val (.int p2), .val (.int p3), .val (.int p4), .val (.int p5), .val (.int fr), .val (.int wt), .val (.int hd), .val (.int ld), .val (.int pp), .val (.int qq), .val (.ref b4), .val (.int zb), .val (.int lb), .val (.int tov), .val .null, .val (.int (own_hx zb)), .val (.int (own_hx lb)), .unset, .unset, .unset, .unset] [])) t
          refine XS.iload X68.here hx rfl (hb hby at_408) rfl ?_
          show Steps p.tables e below (T68.setTop (mkF m 410 #[.val (.int p0), .val (.int p1), .val (.int p2), .val (.int p3), .val (.int p4), .val (.int p5), .val (.int fr), .val (.int wt), .val (.int hd), .val (.int ld), .val (.int pp), .val (.int qq), .val (.ref b4), .val (.int zb), .val (.int lb), .val (.int tov), .val .null, .val (.int (own_hx zb)), .val (.int (own_hx lb)), .unset, .unset, .unset, .unset] [(.int (own_hx zb))])) t
          refine XS.ifYes X68.here hx rfl (pc0 := 410) (pc' := 418) rfl (hb hby at_410) rfl ((if0 _ _).trans (tlt hhv).1) (by decide) (by decide) ?_
          show Steps p.tables e below (T68.setTop (mkF m 418 #[.val (.int p0), .val (.int p1), .val (.int p2), .val (.int p3), .val (.int p4), .val (.int p5), .val (.int fr), .val (.int wt), .val (.int hd), .val (.int ld), .val (.int pp), .val (.int qq), .val (.ref b4), .val (.int zb), .val (.int lb), .val (.int tov), .val .null, .val (.int (own_hx zb)), .val (.int (own_hx lb)), .unset, .unset, .unset, .unset] [])) t
          refine XS.aload X68.here hx rfl (hb hby at_418) rfl rfl ?_
          show Steps p.tables e below (T68.setTop (mkF m 420 #[.val (.int p0), .val (.int p1), .val (.int p2), .val (.int p3), .val (.int p4), .val (.int p5), .val (.int fr), .val (.int wt), .val (.int hd), .val (.int ld), .val (.int pp), .val (.int qq), .val (.ref b4), .val (.int zb), .val (.int lb), .val (.int tov), .val .null, .val (.int (own_hx zb)), .val (.int (own_hx lb)), .unset, .unset, .unset, .unset] [.null])) t
          refine XS.ifnonnullNo X68.here hx rfl (hb hby at_420) rfl ?_
          show Steps p.tables e below (T68.setTop (mkF m 423 #[.val (.int p0), .val (.int p1), .val (.int p2), .val (.int p3), .val (.int p4), .val (.int p5), .val (.int fr), .val (.int wt), .val (.int hd), .val (.int ld), .val (.int pp), .val (.int qq), .val (.ref b4), .val (.int zb), .val (.int lb), .val (.int tov), .val .null, .val (.int (own_hx zb)), .val (.int (own_hx lb)), .unset, .unset, .unset, .unset] [])) t
          refine XS.iconst X68.here hx rfl (hb hby at_423) ?_
          show Steps p.tables e below (T68.setTop (mkF m 424 #[.val (.int p0), .val (.int p1), .val (.int p2), .val (.int p3), .val (.int p4), .val (.int p5), .val (.int fr), .val (.int wt), .val (.int hd), .val (.int ld), .val (.int pp), .val (.int qq), .val (.ref b4), .val (.int zb), .val (.int lb), .val (.int tov), .val .null, .val (.int (own_hx zb)), .val (.int (own_hx lb)), .unset, .unset, .unset, .unset] [(.int (1 : Int32))])) t
          refine XS.goto X68.here hx rfl (pc0 := 424) (pc' := 428) rfl (hb hby at_424) (by decide) (by decide) ?_
          show Steps p.tables e below (T68.setTop (mkF m 428 #[.val (.int p0), .val (.int p1), .val (.int p2), .val (.int p3), .val (.int p4), .val (.int p5), .val (.int fr), .val (.int wt), .val (.int hd), .val (.int ld), .val (.int pp), .val (.int qq), .val (.ref b4), .val (.int zb), .val (.int lb), .val (.int tov), .val .null, .val (.int (own_hx zb)), .val (.int (own_hx lb)), .unset, .unset, .unset, .unset] [(.int (1 : Int32))])) t
          refine XS.istore X68.here hx rfl (hb hby at_428) rfl (l' := #[.val (.int p0), .val (.int p1), .val (.int p2), .val (.int p3), .val (.int p4), .val (.int p5), .val (.int fr), .val (.int wt), .val (.int hd), .val (.int ld), .val (.int pp), .val (.int qq), .val (.ref b4), .val (.int zb), .val (.int lb), .val (.int tov), .val .null, .val (.int (own_hx zb)), .val (.int (own_hx lb)), .val (.int (1 : Int32)), .unset, .unset, .unset]) rfl ?_
          show Steps p.tables e below (T68.setTop (mkF m 430 #[.val (.int p0), .val (.int p1), .val (.int p2), .val (.int p3), .val (.int p4), .val (.int p5), .val (.int fr), .val (.int wt), .val (.int hd), .val (.int ld), .val (.int pp), .val (.int qq), .val (.ref b4), .val (.int zb), .val (.int lb), .val (.int tov), .val .null, .val (.int (own_hx zb)), .val (.int (own_hx lb)), .val (.int (1 : Int32)), .unset, .unset, .unset] [])) t
          refine XS.goto X68.here hx rfl (pc0 := 430) (pc' := 529) rfl (hb hby at_430) (by decide) (by decide) ?_
          show Steps p.tables e below (T68.setTop (mkF m 529 #[.val (.int p0), .val (.int p1), .val (.int p2), .val (.int p3), .val (.int p4), .val (.int p5), .val (.int fr), .val (.int wt), .val (.int hd), .val (.int ld), .val (.int pp), .val (.int qq), .val (.ref b4), .val (.int zb), .val (.int lb), .val (.int tov), .val .null, .val (.int (own_hx zb)), .val (.int (own_hx lb)), .val (.int (1 : Int32)), .unset, .unset, .unset] [])) t
          exact kt
        exact J529 T68 _ T64.heap (.val .null) (.unset) (.unset) X68 N64 e68 kzKq64 ZKq64 KKKq64 fj46_0 (One.val rfl) One.u One.u
      · by_cases hlv : (own_hx lb) < (0 : Int32)
        · refine own_callV X63 hx hZ hown e63 (hw _ (List.mem_of_getElem? (i := 8) rfl)) (hw _ (List.mem_of_getElem? (i := 9) rfl)) (notFace_of_selects (args := #[]) (mvT hZ (hw _ (List.mem_of_getElem? (i := 11) rfl)))) (hw _ (List.mem_of_getElem? (i := 11) rfl)) (hw _ (List.mem_of_getElem? (i := 10) rfl)) (hw _ (List.mem_of_getElem? (i := 6) rfl)) (hw _ (List.mem_of_getElem? (i := 12) rfl)) (by decide) (rm2w l Z aw hw xa b4 fr tov fl k hxa hj46 n0 Zj46 (F_xa.keep Kj46 nin0) fj46_0 (own_sta_keep SX Kj46) (HX.keep Kj46 (by simp)) hk hk3 (h32.trans (by decide)) hfl.2.2.1 (own_bad_no hfl hkp15 (Or.inr hlv))) (E_xa.keep Kj46) (g := (mkF m 379 #[.val (.int p0), .val (.int p1), .val (.int p2), .val (.int p3), .val (.int p4), .val (.int p5), .val (.int fr), .val (.int wt), .val (.int hd), .val (.int ld), .val (.int pp), .val (.int qq), .val (.ref b4), .val (.int zb), .val (.int lb), .val (.int tov), .unset, .unset, .unset, .unset, .unset, .unset, .unset] [(.int tov), (.int fr), (.ref b4), (.ref xa)])) rfl (by rw [hml]; rfl) (argsL := [(.ref b4), (.int fr), (.int tov)]) (rest := []) (lenOf pd_7 rfl) rfl rfl (W := 0) (by show 2 * 0 + _ ≤ _; exact Nat.le_of_eq rfl) (hb hby at_379) (by decide) (by decide) (by decide) (by decide) ?_
          rintro _ T69 L69 X69 ⟨rfl, Nq69, Kq69⟩
          have N69 := Fr.app Nj46 Nq69
          replace fj46_0 := (fj46_0.keep Kq69 nin0)
          have f70 := ((E_xa.keep Kj46).keep Kq69)
          have f71 := ((F_xa.keep Kj46 nin0).keep Kq69 nin0)
          have ZKq69 : n0 ≤ T69.heap.size := Nat.le_trans Zj46 Kq69.1
          have KKKq69 := Kj46.trans Kq69 (all0)
          have kzKq69 := Nat.le_trans kzj46 Kq69.1
          refine own_go (T' := T69) (f' := (mkF m 386 #[.val (.int p0), .val (.int p1), .val (.int p2), .val (.int p3), .val (.int p4), .val (.int p5), .val (.int fr), .val (.int wt), .val (.int hd), .val (.int ld), .val (.int pp), .val (.int qq), .val (.ref b4), .val (.int zb), .val (.int lb), .val (.int tov), .val .null, .unset, .unset, .unset, .unset, .unset, .unset] [(.int zb)])) (fun t kt => ?_) ?_
          · show Steps p.tables e below (T69.setTop (mkF m 382 #[.val (.int p0), .val (.int p1), .val (.int p2), .val (.int p3), .val (.int p4), .val (.int p5), .val (.int fr), .val (.int wt), .val (.int hd), .val (.int ld), .val (.int pp), .val (.int qq), .val (.ref b4), .val (.int zb), .val (.int lb), .val (.int tov), .unset, .unset, .unset, .unset, .unset, .unset, .unset] [.null])) t
            refine XS.astore X69.here hx rfl (hb hby at_382) rfl rfl (l' := #[.val (.int p0), .val (.int p1), .val (.int p2), .val (.int p3), .val (.int p4), .val (.int p5), .val (.int fr), .val (.int wt), .val (.int hd), .val (.int ld), .val (.int pp), .val (.int qq), .val (.ref b4), .val (.int zb), .val (.int lb), .val (.int tov), .val .null, .unset, .unset, .unset, .unset, .unset, .unset]) rfl ?_
            show Steps p.tables e below (T69.setTop (mkF m 384 #[.val (.int p0), .val (.int p1), .val (.int p2), .val (.int p3), .val (.int p4), .val (.int p5), .val (.int fr), .val (.int wt), .val (.int hd), .val (.int ld), .val (.int pp), .val (.int qq), .val (.ref b4), .val (.int zb), .val (.int lb), .val (.int tov), .val .null, .unset, .unset, .unset, .unset, .unset, .unset] [])) t
            refine XS.iload X69.here hx rfl (hb hby at_384) rfl ?_
            show Steps p.tables e below (T69.setTop (mkF m 386 #[.val (.int p0), .val (.int p1), .val (.int p2), .val (.int p3), .val (.int p4), .val (.int p5), .val (.int fr), .val (.int wt), .val (.int hd), .val (.int ld), .val (.int pp), .val (.int qq), .val (.ref b4), .val (.int zb), .val (.int lb), .val (.int tov), .val .null, .unset, .unset, .unset, .unset, .unset, .unset] [(.int zb)])) t
            exact kt
          refine own_callSp X69 hx hZ hown rfl (hw _ (List.mem_of_getElem? (i := 20) rfl)) (hw _ (List.mem_of_getElem? (i := 21) rfl)) (hw _ (List.mem_of_getElem? (i := 3) rfl)) (hw _ (List.mem_of_getElem? (i := 22) rfl)) (by decide) (rm4 l Z aw hw zb T69.heap n0 ZKq69) (g := (mkF m 386 #[.val (.int p0), .val (.int p1), .val (.int p2), .val (.int p3), .val (.int p4), .val (.int p5), .val (.int fr), .val (.int wt), .val (.int hd), .val (.int ld), .val (.int pp), .val (.int qq), .val (.ref b4), .val (.int zb), .val (.int lb), .val (.int tov), .val .null, .unset, .unset, .unset, .unset, .unset, .unset] [(.int zb)])) rfl (by rw [hml]; rfl) (argsL := [(.int zb)]) (rest := []) (lenOf pd_5 rfl) rfl rfl (W := 0) (by show 2 * 0 + _ ≤ _; exact Nat.le_of_eq rfl) (hb hby at_386) (by decide) (by decide) (by decide) (by decide) ?_
          intro T72 X72 e72
          refine own_go (T' := T72) (f' := (mkF m 393 #[.val (.int p0), .val (.int p1), .val (.int p2), .val (.int p3), .val (.int p4), .val (.int p5), .val (.int fr), .val (.int wt), .val (.int hd), .val (.int ld), .val (.int pp), .val (.int qq), .val (.ref b4), .val (.int zb), .val (.int lb), .val (.int tov), .val .null, .val (.int (own_hx zb)), .unset, .unset, .unset, .unset, .unset] [(.int lb)])) (fun t kt => ?_) ?_
          · show Steps p.tables e below (T72.setTop (mkF m 389 #[.val (.int p0), .val (.int p1), .val (.int p2), .val (.int p3), .val (.int p4), .val (.int p5), .val (.int fr), .val (.int wt), .val (.int hd), .val (.int ld), .val (.int pp), .val (.int qq), .val (.ref b4), .val (.int zb), .val (.int lb), .val (.int tov), .val .null, .unset, .unset, .unset, .unset, .unset, .unset] [(.int (own_hx zb))])) t
            refine XS.istore X72.here hx rfl (hb hby at_389) rfl (l' := #[.val (.int p0), .val (.int p1), .val (.int p2), .val (.int p3), .val (.int p4), .val (.int p5), .val (.int fr), .val (.int wt), .val (.int hd), .val (.int ld), .val (.int pp), .val (.int qq), .val (.ref b4), .val (.int zb), .val (.int lb), .val (.int tov), .val .null, .val (.int (own_hx zb)), .unset, .unset, .unset, .unset, .unset]) rfl ?_
            show Steps p.tables e below (T72.setTop (mkF m 391 #[.val (.int p0), .val (.int p1), .val (.int p2), .val (.int p3), .val (.int p4), .val (.int p5), .val (.int fr), .val (.int wt), .val (.int hd), .val (.int ld), .val (.int pp), .val (.int qq), .val (.ref b4), .val (.int zb), .val (.int lb), .val (.int tov), .val .null, .val (.int (own_hx zb)), .unset, .unset, .unset, .unset, .unset] [])) t
            refine XS.iload X72.here hx rfl (hb hby at_391) rfl ?_
            show Steps p.tables e below (T72.setTop (mkF m 393 #[.val (.int p0), .val (.int p1), .val (.int p2), .val (.int p3), .val (.int p4), .val (.int p5), .val (.int fr), .val (.int wt), .val (.int hd), .val (.int ld), .val (.int pp), .val (.int qq), .val (.ref b4), .val (.int zb), .val (.int lb), .val (.int tov), .val .null, .val (.int (own_hx zb)), .unset, .unset, .unset, .unset, .unset] [(.int lb)])) t
            exact kt
          refine own_callSp X72 hx hZ hown e72 (hw _ (List.mem_of_getElem? (i := 20) rfl)) (hw _ (List.mem_of_getElem? (i := 21) rfl)) (hw _ (List.mem_of_getElem? (i := 3) rfl)) (hw _ (List.mem_of_getElem? (i := 22) rfl)) (by decide) (rm4 l Z aw hw lb T69.heap n0 ZKq69) (g := (mkF m 393 #[.val (.int p0), .val (.int p1), .val (.int p2), .val (.int p3), .val (.int p4), .val (.int p5), .val (.int fr), .val (.int wt), .val (.int hd), .val (.int ld), .val (.int pp), .val (.int qq), .val (.ref b4), .val (.int zb), .val (.int lb), .val (.int tov), .val .null, .val (.int (own_hx zb)), .unset, .unset, .unset, .unset, .unset] [(.int lb)])) rfl (by rw [hml]; rfl) (argsL := [(.int lb)]) (rest := []) (lenOf pd_5 rfl) rfl rfl (W := 0) (by show 2 * 0 + _ ≤ _; exact Nat.le_of_eq rfl) (hb hby at_393) (by decide) (by decide) (by decide) (by decide) ?_
          intro T73 X73 e73
          refine own_go (T' := T73) (f' := (mkF m 529 #[.val (.int p0), .val (.int p1), .val (.int p2), .val (.int p3), .val (.int p4), .val (.int p5), .val (.int fr), .val (.int wt), .val (.int hd), .val (.int ld), .val (.int pp), .val (.int qq), .val (.ref b4), .val (.int zb), .val (.int lb), .val (.int tov), .val .null, .val (.int (own_hx zb)), .val (.int (own_hx lb)), .val (.int (1 : Int32)), .unset, .unset, .unset] [])) (fun t kt => ?_) ?_
          · show Steps p.tables e below (T73.setTop (mkF m 396 #[.val (.int p0), .val (.int p1), .val (.int p2), .val (.int p3), .val (.int p4), .val (.int p5), .val (.int fr), .val (.int wt), .val (.int hd), .val (.int ld), .val (.int pp), .val (.int qq), .val (.ref b4), .val (.int zb), .val (.int lb), .val (.int tov), .val .null, .val (.int (own_hx zb)), .unset, .unset, .unset, .unset, .unset] [(.int (own_hx lb))])) t
            refine XS.istore X73.here hx rfl (hb hby at_396) rfl (l' := #[.val (.int p0), .val (.int p1), .val (.int p2), .val (.int p3), .val (.int p4), .val (.int p5), .val (.int fr), .val (.int wt), .val (.int hd), .val (.int ld), .val (.int pp), .val (.int qq), .val (.ref b4), .val (.int zb), .val (.int lb), .val (.int tov), .val .null, .val (.int (own_hx zb)), .val (.int (own_hx lb)), .unset, .unset, .unset, .unset]) rfl ?_
            show Steps p.tables e below (T73.setTop (mkF m 398 #[.val (.int p0), .val (.int p1), .val (.int p2), .val (.int p3), .val (.int p4), .val (.int p5), .val (.int fr), .val (.int wt), .val (.int hd), .val (.int ld), .val (.int pp), .val (.int qq), .val (.ref b4), .val (.int zb), .val (.int lb), .val (.int tov), .val .null, .val (.int (own_hx zb)), .val (.int (own_hx lb)), .unset, .unset, .unset, .unset] [])) t
            refine XS.iload X73.here hx rfl (hb hby at_398) rfl ?_
            show Steps p.tables e below (T73.setTop (mkF m 400 #[.val (.int p0), .val (.int p1), .val (.int p2), .val (.int p3), .val (.int p4), .val (.int p5), .val (.int fr), .val (.int wt), .val (.int hd), .val (.int ld), .val (.int pp), .val (.int qq), .val (.ref b4), .val (.int zb), .val (.int lb), .val (.int tov), .val .null, .val (.int (own_hx zb)), .val (.int (own_hx lb)), .unset, .unset, .unset, .unset] [(.int tov)])) t
            refine XS.iload X73.here hx rfl (hb hby at_400) rfl ?_
            show Steps p.tables e below (T73.setTop (mkF m 402 #[.val (.int p0), .val (.int p1), .val (.int p2), .val (.int p3), .val (.int p4), .val (.int p5), .val (.int fr), .val (.int wt), .val (.int hd), .val (.int ld), .val (.int pp), .val (.int qq), .val (.ref b4), .val (.int zb), .val (.int lb), .val (.int tov), .val .null, .val (.int (own_hx zb)), .val (.int (own_hx lb)), .unset, .unset, .unset, .unset] [(.int fr), (.int tov)])) t
            refine XS.isub X73.here hx rfl (hb hby at_402) rfl ?_
            show Steps p.tables e below (T73.setTop (mkF m 403 #[.val (.int p0), .val (.int p1), .val (.int p2), .val (.int p3), .val (.int p4), .val (.int p5), .val (.int fr), .val (.int wt), .val (.int hd), .val (.int ld), .val (.int pp), .val (.int qq), .val (.ref b4), .val (.int zb), .val (.int lb), .val (.int tov), .val .null, .val (.int (own_hx zb)), .val (.int (own_hx lb)), .unset, .unset, .unset, .unset] [(.int (tov - fr))])) t
            refine XS.bipush X73.here hx rfl (hb hby at_403) ?_
            show Steps p.tables e below (T73.setTop (mkF m 405 #[.val (.int p0), .val (.int p1), .val (.int p2), .val (.int p3), .val (.int p4), .val (.int p5), .val (.int fr), .val (.int wt), .val (.int hd), .val (.int ld), .val (.int pp), .val (.int qq), .val (.ref b4), .val (.int zb), .val (.int lb), .val (.int tov), .val .null, .val (.int (own_hx zb)), .val (.int (own_hx lb)), .unset, .unset, .unset, .unset] [(.int (32 : Int32)), (.int (tov - fr))])) t
            refine XS.icmpNo X73.here hx rfl (hb hby at_405) rfl (teq h32).2 ?_
            show Steps p.tables e below (T73.setTop (mkF m 408 #[.val (.int p0), .val (.int p1), .val (.int p2), .val (.int p3), .val (.int p4), .val (.int p5), .val (.int fr), .val (.int wt), .val (.int hd), .val (.int ld), .val (.int pp), .val (.int qq), .val (.ref b4), .val (.int zb), .val (.int lb), .val (.int tov), .val .null, .val (.int (own_hx zb)), .val (.int (own_hx lb)), .unset, .unset, .unset, .unset] [])) t
            refine XS.iload X73.here hx rfl (hb hby at_408) rfl ?_
            show Steps p.tables e below (T73.setTop (mkF m 410 #[.val (.int p0), .val (.int p1), .val (.int p2), .val (.int p3), .val (.int p4), .val (.int p5), .val (.int fr), .val (.int wt), .val (.int hd), .val (.int ld), .val (.int pp), .val (.int qq), .val (.ref b4), .val (.int zb), .val (.int lb), .val (.int tov), .val .null, .val (.int (own_hx zb)), .val (.int (own_hx lb)), .unset, .unset, .unset, .unset] [(.int (own_hx zb))])) t
            refine XS.ifNo X73.here hx rfl (hb hby at_410) rfl ((if0 _ _).trans (flt hhv).1) ?_
            show Steps p.tables e below (T73.setTop (mkF m 413 #[.val (.int p0), .val (.int p1), .val (.int p2), .val (.int p3), .val (.int p4), .val (.int p5), .val (.int fr), .val (.int wt), .val (.int hd), .val (.int ld), .val (.int pp), .val (.int qq), .val (.ref b4), .val (.int zb), .val (.int lb), .val (.int tov), .val .null, .val (.int (own_hx zb)), .val (.int (own_hx lb)), .unset, .unset, .unset, .unset] [])) t
            refine XS.iload X73.here hx rfl (hb hby at_413) rfl ?_
            show Steps p.tables e below (T73.setTop (mkF m 415 #[.val (.int p0), .val (.int p1), .val (.int p2), .val (.int p3), .val (.int p4), .val (.int p5), .val (.int fr), .val (.int wt), .val (.int hd), .val (.int ld), .val (.int pp), .val (.int qq), .val (.ref b4), .val (.int zb), .val (.int lb), .val (.int tov), .val .null, .val (.int (own_hx zb)), .val (.int (own_hx lb)), .unset, .unset, .unset, .unset] [(.int (own_hx lb))])) t
            refine XS.ifNo X73.here hx rfl (hb hby at_415) rfl ((if0 _ _).trans (tlt hlv).2.1) ?_
            show Steps p.tables e below (T73.setTop (mkF m 418 #[.val (.int p0), .val (.int p1), .val (.int p2), .val (.int p3), .val (.int p4), .val (.int p5), .val (.int fr), .val (.int wt), .val (.int hd), .val (.int ld), .val (.int pp), .val (.int qq), .val (.ref b4), .val (.int zb), .val (.int lb), .val (.int tov), .val .null, .val (.int (own_hx zb)), .val (.int (own_hx lb)), .unset, .unset, .unset, .unset] [])) t
            refine XS.aload X73.here hx rfl (hb hby at_418) rfl rfl ?_
            show Steps p.tables e below (T73.setTop (mkF m 420 #[.val (.int p0), .val (.int p1), .val (.int p2), .val (.int p3), .val (.int p4), .val (.int p5), .val (.int fr), .val (.int wt), .val (.int hd), .val (.int ld), .val (.int pp), .val (.int qq), .val (.ref b4), .val (.int zb), .val (.int lb), .val (.int tov), .val .null, .val (.int (own_hx zb)), .val (.int (own_hx lb)), .unset, .unset, .unset, .unset] [.null])) t
            refine XS.ifnonnullNo X73.here hx rfl (hb hby at_420) rfl ?_
            show Steps p.tables e below (T73.setTop (mkF m 423 #[.val (.int p0), .val (.int p1), .val (.int p2), .val (.int p3), .val (.int p4), .val (.int p5), .val (.int fr), .val (.int wt), .val (.int hd), .val (.int ld), .val (.int pp), .val (.int qq), .val (.ref b4), .val (.int zb), .val (.int lb), .val (.int tov), .val .null, .val (.int (own_hx zb)), .val (.int (own_hx lb)), .unset, .unset, .unset, .unset] [])) t
            refine XS.iconst X73.here hx rfl (hb hby at_423) ?_
            show Steps p.tables e below (T73.setTop (mkF m 424 #[.val (.int p0), .val (.int p1), .val (.int p2), .val (.int p3), .val (.int p4), .val (.int p5), .val (.int fr), .val (.int wt), .val (.int hd), .val (.int ld), .val (.int pp), .val (.int qq), .val (.ref b4), .val (.int zb), .val (.int lb), .val (.int tov), .val .null, .val (.int (own_hx zb)), .val (.int (own_hx lb)), .unset, .unset, .unset, .unset] [(.int (1 : Int32))])) t
            refine XS.goto X73.here hx rfl (pc0 := 424) (pc' := 428) rfl (hb hby at_424) (by decide) (by decide) ?_
            show Steps p.tables e below (T73.setTop (mkF m 428 #[.val (.int p0), .val (.int p1), .val (.int p2), .val (.int p3), .val (.int p4), .val (.int p5), .val (.int fr), .val (.int wt), .val (.int hd), .val (.int ld), .val (.int pp), .val (.int qq), .val (.ref b4), .val (.int zb), .val (.int lb), .val (.int tov), .val .null, .val (.int (own_hx zb)), .val (.int (own_hx lb)), .unset, .unset, .unset, .unset] [(.int (1 : Int32))])) t
            refine XS.istore X73.here hx rfl (hb hby at_428) rfl (l' := #[.val (.int p0), .val (.int p1), .val (.int p2), .val (.int p3), .val (.int p4), .val (.int p5), .val (.int fr), .val (.int wt), .val (.int hd), .val (.int ld), .val (.int pp), .val (.int qq), .val (.ref b4), .val (.int zb), .val (.int lb), .val (.int tov), .val .null, .val (.int (own_hx zb)), .val (.int (own_hx lb)), .val (.int (1 : Int32)), .unset, .unset, .unset]) rfl ?_
            show Steps p.tables e below (T73.setTop (mkF m 430 #[.val (.int p0), .val (.int p1), .val (.int p2), .val (.int p3), .val (.int p4), .val (.int p5), .val (.int fr), .val (.int wt), .val (.int hd), .val (.int ld), .val (.int pp), .val (.int qq), .val (.ref b4), .val (.int zb), .val (.int lb), .val (.int tov), .val .null, .val (.int (own_hx zb)), .val (.int (own_hx lb)), .val (.int (1 : Int32)), .unset, .unset, .unset] [])) t
            refine XS.goto X73.here hx rfl (pc0 := 430) (pc' := 529) rfl (hb hby at_430) (by decide) (by decide) ?_
            show Steps p.tables e below (T73.setTop (mkF m 529 #[.val (.int p0), .val (.int p1), .val (.int p2), .val (.int p3), .val (.int p4), .val (.int p5), .val (.int fr), .val (.int wt), .val (.int hd), .val (.int ld), .val (.int pp), .val (.int qq), .val (.ref b4), .val (.int zb), .val (.int lb), .val (.int tov), .val .null, .val (.int (own_hx zb)), .val (.int (own_hx lb)), .val (.int (1 : Int32)), .unset, .unset, .unset] [])) t
            exact kt
          exact J529 T73 _ T69.heap (.val .null) (.unset) (.unset) X73 N69 e73 kzKq69 ZKq69 KKKq69 fj46_0 (One.val rfl) One.u One.u
        · refine own_callV X63 hx hZ hown e63 (hw _ (List.mem_of_getElem? (i := 8) rfl)) (hw _ (List.mem_of_getElem? (i := 9) rfl)) (notFace_of_selects (args := #[]) (mvT hZ (hw _ (List.mem_of_getElem? (i := 11) rfl)))) (hw _ (List.mem_of_getElem? (i := 11) rfl)) (hw _ (List.mem_of_getElem? (i := 10) rfl)) (hw _ (List.mem_of_getElem? (i := 6) rfl)) (hw _ (List.mem_of_getElem? (i := 12) rfl)) (by decide) (rm2v l Z aw hw xa b4 fr tov fl k hxa hj46 n0 Zj46 (F_xa.keep Kj46 nin0) fj46_0 (own_sta_keep SX Kj46) (HX.keep Kj46 (by simp)) hk hk3 (h32.trans (by decide)) hfl.2.2.1 (own_bad_ok hfl hhv hlv)) (E_xa.keep Kj46) (g := (mkF m 379 #[.val (.int p0), .val (.int p1), .val (.int p2), .val (.int p3), .val (.int p4), .val (.int p5), .val (.int fr), .val (.int wt), .val (.int hd), .val (.int ld), .val (.int pp), .val (.int qq), .val (.ref b4), .val (.int zb), .val (.int lb), .val (.int tov), .unset, .unset, .unset, .unset, .unset, .unset, .unset] [(.int tov), (.int fr), (.ref b4), (.ref xa)])) rfl (by rw [hml]; rfl) (argsL := [(.ref b4), (.int fr), (.int tov)]) (rest := []) (lenOf pd_7 rfl) rfl rfl (W := 0) (by show 2 * 0 + _ ≤ _; exact Nat.le_of_eq rfl) (hb hby at_379) (by decide) (by decide) (by decide) (by decide) ?_
          rintro _ T74 L74 X74 ⟨rfl, Nq74, Kq74, Pq74_0⟩
          have N74 := Fr.app Nj46 Nq74
          replace fj46_0 := (fj46_0.keep Kq74 nin0)
          have f75 := ((E_xa.keep Kj46).keep Kq74)
          have f76 := ((F_xa.keep Kj46 nin0).keep Kq74 nin0)
          have ZKq74 : n0 ≤ T74.heap.size := Nat.le_trans Zj46 Kq74.1
          have KKKq74 := Kj46.trans Kq74 (all0)
          have kzKq74 := Nat.le_trans kzj46 Kq74.1
          refine own_go (T' := T74) (f' := (mkF m 386 #[.val (.int p0), .val (.int p1), .val (.int p2), .val (.int p3), .val (.int p4), .val (.int p5), .val (.int fr), .val (.int wt), .val (.int hd), .val (.int ld), .val (.int pp), .val (.int qq), .val (.ref b4), .val (.int zb), .val (.int lb), .val (.int tov), .val (.ref hj46.size), .unset, .unset, .unset, .unset, .unset, .unset] [(.int zb)])) (fun t kt => ?_) ?_
          · show Steps p.tables e below (T74.setTop (mkF m 382 #[.val (.int p0), .val (.int p1), .val (.int p2), .val (.int p3), .val (.int p4), .val (.int p5), .val (.int fr), .val (.int wt), .val (.int hd), .val (.int ld), .val (.int pp), .val (.int qq), .val (.ref b4), .val (.int zb), .val (.int lb), .val (.int tov), .unset, .unset, .unset, .unset, .unset, .unset, .unset] [(.ref hj46.size)])) t
            refine XS.astore X74.here hx rfl (hb hby at_382) rfl rfl (l' := #[.val (.int p0), .val (.int p1), .val (.int p2), .val (.int p3), .val (.int p4), .val (.int p5), .val (.int fr), .val (.int wt), .val (.int hd), .val (.int ld), .val (.int pp), .val (.int qq), .val (.ref b4), .val (.int zb), .val (.int lb), .val (.int tov), .val (.ref hj46.size), .unset, .unset, .unset, .unset, .unset, .unset]) rfl ?_
            show Steps p.tables e below (T74.setTop (mkF m 384 #[.val (.int p0), .val (.int p1), .val (.int p2), .val (.int p3), .val (.int p4), .val (.int p5), .val (.int fr), .val (.int wt), .val (.int hd), .val (.int ld), .val (.int pp), .val (.int qq), .val (.ref b4), .val (.int zb), .val (.int lb), .val (.int tov), .val (.ref hj46.size), .unset, .unset, .unset, .unset, .unset, .unset] [])) t
            refine XS.iload X74.here hx rfl (hb hby at_384) rfl ?_
            show Steps p.tables e below (T74.setTop (mkF m 386 #[.val (.int p0), .val (.int p1), .val (.int p2), .val (.int p3), .val (.int p4), .val (.int p5), .val (.int fr), .val (.int wt), .val (.int hd), .val (.int ld), .val (.int pp), .val (.int qq), .val (.ref b4), .val (.int zb), .val (.int lb), .val (.int tov), .val (.ref hj46.size), .unset, .unset, .unset, .unset, .unset, .unset] [(.int zb)])) t
            exact kt
          refine own_callSp X74 hx hZ hown rfl (hw _ (List.mem_of_getElem? (i := 20) rfl)) (hw _ (List.mem_of_getElem? (i := 21) rfl)) (hw _ (List.mem_of_getElem? (i := 3) rfl)) (hw _ (List.mem_of_getElem? (i := 22) rfl)) (by decide) (rm4 l Z aw hw zb T74.heap n0 ZKq74) (g := (mkF m 386 #[.val (.int p0), .val (.int p1), .val (.int p2), .val (.int p3), .val (.int p4), .val (.int p5), .val (.int fr), .val (.int wt), .val (.int hd), .val (.int ld), .val (.int pp), .val (.int qq), .val (.ref b4), .val (.int zb), .val (.int lb), .val (.int tov), .val (.ref hj46.size), .unset, .unset, .unset, .unset, .unset, .unset] [(.int zb)])) rfl (by rw [hml]; rfl) (argsL := [(.int zb)]) (rest := []) (lenOf pd_5 rfl) rfl rfl (W := 0) (by show 2 * 0 + _ ≤ _; exact Nat.le_of_eq rfl) (hb hby at_386) (by decide) (by decide) (by decide) (by decide) ?_
          intro T77 X77 e77
          refine own_go (T' := T77) (f' := (mkF m 393 #[.val (.int p0), .val (.int p1), .val (.int p2), .val (.int p3), .val (.int p4), .val (.int p5), .val (.int fr), .val (.int wt), .val (.int hd), .val (.int ld), .val (.int pp), .val (.int qq), .val (.ref b4), .val (.int zb), .val (.int lb), .val (.int tov), .val (.ref hj46.size), .val (.int (own_hx zb)), .unset, .unset, .unset, .unset, .unset] [(.int lb)])) (fun t kt => ?_) ?_
          · show Steps p.tables e below (T77.setTop (mkF m 389 #[.val (.int p0), .val (.int p1), .val (.int p2), .val (.int p3), .val (.int p4), .val (.int p5), .val (.int fr), .val (.int wt), .val (.int hd), .val (.int ld), .val (.int pp), .val (.int qq), .val (.ref b4), .val (.int zb), .val (.int lb), .val (.int tov), .val (.ref hj46.size), .unset, .unset, .unset, .unset, .unset, .unset] [(.int (own_hx zb))])) t
            refine XS.istore X77.here hx rfl (hb hby at_389) rfl (l' := #[.val (.int p0), .val (.int p1), .val (.int p2), .val (.int p3), .val (.int p4), .val (.int p5), .val (.int fr), .val (.int wt), .val (.int hd), .val (.int ld), .val (.int pp), .val (.int qq), .val (.ref b4), .val (.int zb), .val (.int lb), .val (.int tov), .val (.ref hj46.size), .val (.int (own_hx zb)), .unset, .unset, .unset, .unset, .unset]) rfl ?_
            show Steps p.tables e below (T77.setTop (mkF m 391 #[.val (.int p0), .val (.int p1), .val (.int p2), .val (.int p3), .val (.int p4), .val (.int p5), .val (.int fr), .val (.int wt), .val (.int hd), .val (.int ld), .val (.int pp), .val (.int qq), .val (.ref b4), .val (.int zb), .val (.int lb), .val (.int tov), .val (.ref hj46.size), .val (.int (own_hx zb)), .unset, .unset, .unset, .unset, .unset] [])) t
            refine XS.iload X77.here hx rfl (hb hby at_391) rfl ?_
            show Steps p.tables e below (T77.setTop (mkF m 393 #[.val (.int p0), .val (.int p1), .val (.int p2), .val (.int p3), .val (.int p4), .val (.int p5), .val (.int fr), .val (.int wt), .val (.int hd), .val (.int ld), .val (.int pp), .val (.int qq), .val (.ref b4), .val (.int zb), .val (.int lb), .val (.int tov), .val (.ref hj46.size), .val (.int (own_hx zb)), .unset, .unset, .unset, .unset, .unset] [(.int lb)])) t
            exact kt
          refine own_callSp X77 hx hZ hown e77 (hw _ (List.mem_of_getElem? (i := 20) rfl)) (hw _ (List.mem_of_getElem? (i := 21) rfl)) (hw _ (List.mem_of_getElem? (i := 3) rfl)) (hw _ (List.mem_of_getElem? (i := 22) rfl)) (by decide) (rm4 l Z aw hw lb T74.heap n0 ZKq74) (g := (mkF m 393 #[.val (.int p0), .val (.int p1), .val (.int p2), .val (.int p3), .val (.int p4), .val (.int p5), .val (.int fr), .val (.int wt), .val (.int hd), .val (.int ld), .val (.int pp), .val (.int qq), .val (.ref b4), .val (.int zb), .val (.int lb), .val (.int tov), .val (.ref hj46.size), .val (.int (own_hx zb)), .unset, .unset, .unset, .unset, .unset] [(.int lb)])) rfl (by rw [hml]; rfl) (argsL := [(.int lb)]) (rest := []) (lenOf pd_5 rfl) rfl rfl (W := 0) (by show 2 * 0 + _ ≤ _; exact Nat.le_of_eq rfl) (hb hby at_393) (by decide) (by decide) (by decide) (by decide) ?_
          intro T78 X78 e78
          refine own_go (T' := T78) (f' := (mkF m 440 #[.val (.int p0), .val (.int p1), .val (.int p2), .val (.int p3), .val (.int p4), .val (.int p5), .val (.int fr), .val (.int wt), .val (.int hd), .val (.int ld), .val (.int pp), .val (.int qq), .val (.ref b4), .val (.int zb), .val (.int lb), .val (.int tov), .val (.ref hj46.size), .val (.int (own_hx zb)), .val (.int (own_hx lb)), .unset, .unset, .unset, .unset] [(.ref hj46.size)])) (fun t kt => ?_) ?_
          · show Steps p.tables e below (T78.setTop (mkF m 396 #[.val (.int p0), .val (.int p1), .val (.int p2), .val (.int p3), .val (.int p4), .val (.int p5), .val (.int fr), .val (.int wt), .val (.int hd), .val (.int ld), .val (.int pp), .val (.int qq), .val (.ref b4), .val (.int zb), .val (.int lb), .val (.int tov), .val (.ref hj46.size), .val (.int (own_hx zb)), .unset, .unset, .unset, .unset, .unset] [(.int (own_hx lb))])) t
            refine XS.istore X78.here hx rfl (hb hby at_396) rfl (l' := #[.val (.int p0), .val (.int p1), .val (.int p2), .val (.int p3), .val (.int p4), .val (.int p5), .val (.int fr), .val (.int wt), .val (.int hd), .val (.int ld), .val (.int pp), .val (.int qq), .val (.ref b4), .val (.int zb), .val (.int lb), .val (.int tov), .val (.ref hj46.size), .val (.int (own_hx zb)), .val (.int (own_hx lb)), .unset, .unset, .unset, .unset]) rfl ?_
            show Steps p.tables e below (T78.setTop (mkF m 398 #[.val (.int p0), .val (.int p1), .val (.int p2), .val (.int p3), .val (.int p4), .val (.int p5), .val (.int fr), .val (.int wt), .val (.int hd), .val (.int ld), .val (.int pp), .val (.int qq), .val (.ref b4), .val (.int zb), .val (.int lb), .val (.int tov), .val (.ref hj46.size), .val (.int (own_hx zb)), .val (.int (own_hx lb)), .unset, .unset, .unset, .unset] [])) t
            refine XS.iload X78.here hx rfl (hb hby at_398) rfl ?_
            show Steps p.tables e below (T78.setTop (mkF m 400 #[.val (.int p0), .val (.int p1), .val (.int p2), .val (.int p3), .val (.int p4), .val (.int p5), .val (.int fr), .val (.int wt), .val (.int hd), .val (.int ld), .val (.int pp), .val (.int qq), .val (.ref b4), .val (.int zb), .val (.int lb), .val (.int tov), .val (.ref hj46.size), .val (.int (own_hx zb)), .val (.int (own_hx lb)), .unset, .unset, .unset, .unset] [(.int tov)])) t
            refine XS.iload X78.here hx rfl (hb hby at_400) rfl ?_
            show Steps p.tables e below (T78.setTop (mkF m 402 #[.val (.int p0), .val (.int p1), .val (.int p2), .val (.int p3), .val (.int p4), .val (.int p5), .val (.int fr), .val (.int wt), .val (.int hd), .val (.int ld), .val (.int pp), .val (.int qq), .val (.ref b4), .val (.int zb), .val (.int lb), .val (.int tov), .val (.ref hj46.size), .val (.int (own_hx zb)), .val (.int (own_hx lb)), .unset, .unset, .unset, .unset] [(.int fr), (.int tov)])) t
            refine XS.isub X78.here hx rfl (hb hby at_402) rfl ?_
            show Steps p.tables e below (T78.setTop (mkF m 403 #[.val (.int p0), .val (.int p1), .val (.int p2), .val (.int p3), .val (.int p4), .val (.int p5), .val (.int fr), .val (.int wt), .val (.int hd), .val (.int ld), .val (.int pp), .val (.int qq), .val (.ref b4), .val (.int zb), .val (.int lb), .val (.int tov), .val (.ref hj46.size), .val (.int (own_hx zb)), .val (.int (own_hx lb)), .unset, .unset, .unset, .unset] [(.int (tov - fr))])) t
            refine XS.bipush X78.here hx rfl (hb hby at_403) ?_
            show Steps p.tables e below (T78.setTop (mkF m 405 #[.val (.int p0), .val (.int p1), .val (.int p2), .val (.int p3), .val (.int p4), .val (.int p5), .val (.int fr), .val (.int wt), .val (.int hd), .val (.int ld), .val (.int pp), .val (.int qq), .val (.ref b4), .val (.int zb), .val (.int lb), .val (.int tov), .val (.ref hj46.size), .val (.int (own_hx zb)), .val (.int (own_hx lb)), .unset, .unset, .unset, .unset] [(.int (32 : Int32)), (.int (tov - fr))])) t
            refine XS.icmpNo X78.here hx rfl (hb hby at_405) rfl (teq h32).2 ?_
            show Steps p.tables e below (T78.setTop (mkF m 408 #[.val (.int p0), .val (.int p1), .val (.int p2), .val (.int p3), .val (.int p4), .val (.int p5), .val (.int fr), .val (.int wt), .val (.int hd), .val (.int ld), .val (.int pp), .val (.int qq), .val (.ref b4), .val (.int zb), .val (.int lb), .val (.int tov), .val (.ref hj46.size), .val (.int (own_hx zb)), .val (.int (own_hx lb)), .unset, .unset, .unset, .unset] [])) t
            refine XS.iload X78.here hx rfl (hb hby at_408) rfl ?_
            show Steps p.tables e below (T78.setTop (mkF m 410 #[.val (.int p0), .val (.int p1), .val (.int p2), .val (.int p3), .val (.int p4), .val (.int p5), .val (.int fr), .val (.int wt), .val (.int hd), .val (.int ld), .val (.int pp), .val (.int qq), .val (.ref b4), .val (.int zb), .val (.int lb), .val (.int tov), .val (.ref hj46.size), .val (.int (own_hx zb)), .val (.int (own_hx lb)), .unset, .unset, .unset, .unset] [(.int (own_hx zb))])) t
            refine XS.ifNo X78.here hx rfl (hb hby at_410) rfl ((if0 _ _).trans (flt hhv).1) ?_
            show Steps p.tables e below (T78.setTop (mkF m 413 #[.val (.int p0), .val (.int p1), .val (.int p2), .val (.int p3), .val (.int p4), .val (.int p5), .val (.int fr), .val (.int wt), .val (.int hd), .val (.int ld), .val (.int pp), .val (.int qq), .val (.ref b4), .val (.int zb), .val (.int lb), .val (.int tov), .val (.ref hj46.size), .val (.int (own_hx zb)), .val (.int (own_hx lb)), .unset, .unset, .unset, .unset] [])) t
            refine XS.iload X78.here hx rfl (hb hby at_413) rfl ?_
            show Steps p.tables e below (T78.setTop (mkF m 415 #[.val (.int p0), .val (.int p1), .val (.int p2), .val (.int p3), .val (.int p4), .val (.int p5), .val (.int fr), .val (.int wt), .val (.int hd), .val (.int ld), .val (.int pp), .val (.int qq), .val (.ref b4), .val (.int zb), .val (.int lb), .val (.int tov), .val (.ref hj46.size), .val (.int (own_hx zb)), .val (.int (own_hx lb)), .unset, .unset, .unset, .unset] [(.int (own_hx lb))])) t
            refine XS.ifYes X78.here hx rfl (pc0 := 415) (pc' := 433) rfl (hb hby at_415) rfl ((if0 _ _).trans (flt hlv).2.1) (by decide) (by decide) ?_
            show Steps p.tables e below (T78.setTop (mkF m 433 #[.val (.int p0), .val (.int p1), .val (.int p2), .val (.int p3), .val (.int p4), .val (.int p5), .val (.int fr), .val (.int wt), .val (.int hd), .val (.int ld), .val (.int pp), .val (.int qq), .val (.ref b4), .val (.int zb), .val (.int lb), .val (.int tov), .val (.ref hj46.size), .val (.int (own_hx zb)), .val (.int (own_hx lb)), .unset, .unset, .unset, .unset] [])) t
            refine XS.aload X78.here hx rfl (hb hby at_433) rfl rfl ?_
            show Steps p.tables e below (T78.setTop (mkF m 435 #[.val (.int p0), .val (.int p1), .val (.int p2), .val (.int p3), .val (.int p4), .val (.int p5), .val (.int fr), .val (.int wt), .val (.int hd), .val (.int ld), .val (.int pp), .val (.int qq), .val (.ref b4), .val (.int zb), .val (.int lb), .val (.int tov), .val (.ref hj46.size), .val (.int (own_hx zb)), .val (.int (own_hx lb)), .unset, .unset, .unset, .unset] [(.ref hj46.size)])) t
            refine XS.ifnullNo X78.here hx rfl (hb hby at_435) rfl ?_
            show Steps p.tables e below (T78.setTop (mkF m 438 #[.val (.int p0), .val (.int p1), .val (.int p2), .val (.int p3), .val (.int p4), .val (.int p5), .val (.int fr), .val (.int wt), .val (.int hd), .val (.int ld), .val (.int pp), .val (.int qq), .val (.ref b4), .val (.int zb), .val (.int lb), .val (.int tov), .val (.ref hj46.size), .val (.int (own_hx zb)), .val (.int (own_hx lb)), .unset, .unset, .unset, .unset] [])) t
            refine XS.aload X78.here hx rfl (hb hby at_438) rfl rfl ?_
            show Steps p.tables e below (T78.setTop (mkF m 440 #[.val (.int p0), .val (.int p1), .val (.int p2), .val (.int p3), .val (.int p4), .val (.int p5), .val (.int fr), .val (.int wt), .val (.int hd), .val (.int ld), .val (.int pp), .val (.int qq), .val (.ref b4), .val (.int zb), .val (.int lb), .val (.int tov), .val (.ref hj46.size), .val (.int (own_hx zb)), .val (.int (own_hx lb)), .unset, .unset, .unset, .unset] [(.ref hj46.size)])) t
            exact kt
          have st79 := own_length X78 hx hZ e78 Pq74_0 (z := (16 : Int32)) (by decide) (g := (mkF m 440 #[.val (.int p0), .val (.int p1), .val (.int p2), .val (.int p3), .val (.int p4), .val (.int p5), .val (.int fr), .val (.int wt), .val (.int hd), .val (.int ld), .val (.int pp), .val (.int qq), .val (.ref b4), .val (.int zb), .val (.int lb), .val (.int tov), .val (.ref hj46.size), .val (.int (own_hx zb)), .val (.int (own_hx lb)), .unset, .unset, .unset, .unset] [(.ref hj46.size)])) rfl rfl (hb hby at_440)
          refine own_go st79 ?_
          refine own_go (T' := T78) (f' := (mkF m 484 #[.val (.int p0), .val (.int p1), .val (.int p2), .val (.int p3), .val (.int p4), .val (.int p5), .val (.int fr), .val (.int wt), .val (.int hd), .val (.int ld), .val (.int pp), .val (.int qq), .val (.ref b4), .val (.int zb), .val (.int lb), .val (.int tov), .val (.ref hj46.size), .val (.int (own_hx zb)), .val (.int (own_hx lb)), .val (.int (1 : Int32)), .unset, .unset, .unset] [(.int (fl (k + 2 * kq)))])) (fun t kt => ?_) ?_
          · show Steps p.tables e below (T78.setTop (mkF m 441 #[.val (.int p0), .val (.int p1), .val (.int p2), .val (.int p3), .val (.int p4), .val (.int p5), .val (.int fr), .val (.int wt), .val (.int hd), .val (.int ld), .val (.int pp), .val (.int qq), .val (.ref b4), .val (.int zb), .val (.int lb), .val (.int tov), .val (.ref hj46.size), .val (.int (own_hx zb)), .val (.int (own_hx lb)), .unset, .unset, .unset, .unset] [(.int (16 : Int32))])) t
            refine XS.bipush X78.here hx rfl (hb hby at_441) ?_
            show Steps p.tables e below (T78.setTop (mkF m 443 #[.val (.int p0), .val (.int p1), .val (.int p2), .val (.int p3), .val (.int p4), .val (.int p5), .val (.int fr), .val (.int wt), .val (.int hd), .val (.int ld), .val (.int pp), .val (.int qq), .val (.ref b4), .val (.int zb), .val (.int lb), .val (.int tov), .val (.ref hj46.size), .val (.int (own_hx zb)), .val (.int (own_hx lb)), .unset, .unset, .unset, .unset] [(.int (16 : Int32)), (.int (16 : Int32))])) t
            refine XS.icmpNo X78.here hx rfl (hb hby at_443) rfl (by decide) ?_
            show Steps p.tables e below (T78.setTop (mkF m 446 #[.val (.int p0), .val (.int p1), .val (.int p2), .val (.int p3), .val (.int p4), .val (.int p5), .val (.int fr), .val (.int wt), .val (.int hd), .val (.int ld), .val (.int pp), .val (.int qq), .val (.ref b4), .val (.int zb), .val (.int lb), .val (.int tov), .val (.ref hj46.size), .val (.int (own_hx zb)), .val (.int (own_hx lb)), .unset, .unset, .unset, .unset] [])) t
            refine XS.aload X78.here hx rfl (hb hby at_446) rfl rfl ?_
            show Steps p.tables e below (T78.setTop (mkF m 448 #[.val (.int p0), .val (.int p1), .val (.int p2), .val (.int p3), .val (.int p4), .val (.int p5), .val (.int fr), .val (.int wt), .val (.int hd), .val (.int ld), .val (.int pp), .val (.int qq), .val (.ref b4), .val (.int zb), .val (.int lb), .val (.int tov), .val (.ref hj46.size), .val (.int (own_hx zb)), .val (.int (own_hx lb)), .unset, .unset, .unset, .unset] [(.ref hj46.size)])) t
            refine XS.iload X78.here hx rfl (hb hby at_448) rfl ?_
            show Steps p.tables e below (T78.setTop (mkF m 450 #[.val (.int p0), .val (.int p1), .val (.int p2), .val (.int p3), .val (.int p4), .val (.int p5), .val (.int fr), .val (.int wt), .val (.int hd), .val (.int ld), .val (.int pp), .val (.int qq), .val (.ref b4), .val (.int zb), .val (.int lb), .val (.int tov), .val (.ref hj46.size), .val (.int (own_hx zb)), .val (.int (own_hx lb)), .unset, .unset, .unset, .unset] [(.int pp), (.ref hj46.size)])) t
            refine own_baload X78 hx hZ e78 Pq74_0 (i := kp) hkp (by omega) (g := (mkF m 450 #[.val (.int p0), .val (.int p1), .val (.int p2), .val (.int p3), .val (.int p4), .val (.int p5), .val (.int fr), .val (.int wt), .val (.int hd), .val (.int ld), .val (.int pp), .val (.int qq), .val (.ref b4), .val (.int zb), .val (.int lb), .val (.int tov), .val (.ref hj46.size), .val (.int (own_hx zb)), .val (.int (own_hx lb)), .unset, .unset, .unset, .unset] [(.int pp), (.ref hj46.size)])) rfl rfl (hb hby at_450) _ ?_
            show Steps p.tables e below (T78.setTop (mkF m 451 #[.val (.int p0), .val (.int p1), .val (.int p2), .val (.int p3), .val (.int p4), .val (.int p5), .val (.int fr), .val (.int wt), .val (.int hd), .val (.int ld), .val (.int pp), .val (.int qq), .val (.ref b4), .val (.int zb), .val (.int lb), .val (.int tov), .val (.ref hj46.size), .val (.int (own_hx zb)), .val (.int (own_hx lb)), .unset, .unset, .unset, .unset] [(.int ((own_pv fl k) kp))])) t
            refine XS.iload X78.here hx rfl (hb hby at_451) rfl ?_
            show Steps p.tables e below (T78.setTop (mkF m 453 #[.val (.int p0), .val (.int p1), .val (.int p2), .val (.int p3), .val (.int p4), .val (.int p5), .val (.int fr), .val (.int wt), .val (.int hd), .val (.int ld), .val (.int pp), .val (.int qq), .val (.ref b4), .val (.int zb), .val (.int lb), .val (.int tov), .val (.ref hj46.size), .val (.int (own_hx zb)), .val (.int (own_hx lb)), .unset, .unset, .unset, .unset] [(.int (own_hx zb)), (.int ((own_pv fl k) kp))])) t
            refine XS.iconst X78.here hx rfl (hb hby at_453) ?_
            show Steps p.tables e below (T78.setTop (mkF m 454 #[.val (.int p0), .val (.int p1), .val (.int p2), .val (.int p3), .val (.int p4), .val (.int p5), .val (.int fr), .val (.int wt), .val (.int hd), .val (.int ld), .val (.int pp), .val (.int qq), .val (.ref b4), .val (.int zb), .val (.int lb), .val (.int tov), .val (.ref hj46.size), .val (.int (own_hx zb)), .val (.int (own_hx lb)), .unset, .unset, .unset, .unset] [(.int (4 : Int32)), (.int (own_hx zb)), (.int ((own_pv fl k) kp))])) t
            refine XS.ishl X78.here hx rfl (hb hby at_454) rfl ?_
            show Steps p.tables e below (T78.setTop (mkF m 455 #[.val (.int p0), .val (.int p1), .val (.int p2), .val (.int p3), .val (.int p4), .val (.int p5), .val (.int fr), .val (.int wt), .val (.int hd), .val (.int ld), .val (.int pp), .val (.int qq), .val (.ref b4), .val (.int zb), .val (.int lb), .val (.int tov), .val (.ref hj46.size), .val (.int (own_hx zb)), .val (.int (own_hx lb)), .unset, .unset, .unset, .unset] [(.int ((own_hx zb) <<< ((4 : Int32) &&& 31))), (.int ((own_pv fl k) kp))])) t
            refine XS.iload X78.here hx rfl (hb hby at_455) rfl ?_
            show Steps p.tables e below (T78.setTop (mkF m 457 #[.val (.int p0), .val (.int p1), .val (.int p2), .val (.int p3), .val (.int p4), .val (.int p5), .val (.int fr), .val (.int wt), .val (.int hd), .val (.int ld), .val (.int pp), .val (.int qq), .val (.ref b4), .val (.int zb), .val (.int lb), .val (.int tov), .val (.ref hj46.size), .val (.int (own_hx zb)), .val (.int (own_hx lb)), .unset, .unset, .unset, .unset] [(.int (own_hx lb)), (.int ((own_hx zb) <<< ((4 : Int32) &&& 31))), (.int ((own_pv fl k) kp))])) t
            refine XS.ior X78.here hx rfl (hb hby at_457) rfl ?_
            show Steps p.tables e below (T78.setTop (mkF m 458 #[.val (.int p0), .val (.int p1), .val (.int p2), .val (.int p3), .val (.int p4), .val (.int p5), .val (.int fr), .val (.int wt), .val (.int hd), .val (.int ld), .val (.int pp), .val (.int qq), .val (.ref b4), .val (.int zb), .val (.int lb), .val (.int tov), .val (.ref hj46.size), .val (.int (own_hx zb)), .val (.int (own_hx lb)), .unset, .unset, .unset, .unset] [(.int (((own_hx zb) <<< ((4 : Int32) &&& 31)) ||| (own_hx lb))), (.int ((own_pv fl k) kp))])) t
            refine XS.i2b X78.here hx rfl (hb hby at_458) rfl ?_
            show Steps p.tables e below (T78.setTop (mkF m 459 #[.val (.int p0), .val (.int p1), .val (.int p2), .val (.int p3), .val (.int p4), .val (.int p5), .val (.int fr), .val (.int wt), .val (.int hd), .val (.int ld), .val (.int pp), .val (.int qq), .val (.ref b4), .val (.int zb), .val (.int lb), .val (.int tov), .val (.ref hj46.size), .val (.int (own_hx zb)), .val (.int (own_hx lb)), .unset, .unset, .unset, .unset] [(.int ((((own_hx zb) <<< ((4 : Int32) &&& 31)) ||| (own_hx lb)).toInt8.toInt32)), (.int ((own_pv fl k) kp))])) t
            refine XS.icmpNo X78.here hx rfl (hb hby at_459) rfl (teq (show ((own_pv fl k) kp) = ((((own_hx zb) <<< ((4 : Int32) &&& 31)) ||| (own_hx lb)).toInt8.toInt32) from (own_pv_at hfl))).2 ?_
            show Steps p.tables e below (T78.setTop (mkF m 462 #[.val (.int p0), .val (.int p1), .val (.int p2), .val (.int p3), .val (.int p4), .val (.int p5), .val (.int fr), .val (.int wt), .val (.int hd), .val (.int ld), .val (.int pp), .val (.int qq), .val (.ref b4), .val (.int zb), .val (.int lb), .val (.int tov), .val (.ref hj46.size), .val (.int (own_hx zb)), .val (.int (own_hx lb)), .unset, .unset, .unset, .unset] [])) t
            refine XS.iconst X78.here hx rfl (hb hby at_462) ?_
            show Steps p.tables e below (T78.setTop (mkF m 463 #[.val (.int p0), .val (.int p1), .val (.int p2), .val (.int p3), .val (.int p4), .val (.int p5), .val (.int fr), .val (.int wt), .val (.int hd), .val (.int ld), .val (.int pp), .val (.int qq), .val (.ref b4), .val (.int zb), .val (.int lb), .val (.int tov), .val (.ref hj46.size), .val (.int (own_hx zb)), .val (.int (own_hx lb)), .unset, .unset, .unset, .unset] [(.int (1 : Int32))])) t
            refine XS.goto X78.here hx rfl (pc0 := 463) (pc' := 467) rfl (hb hby at_463) (by decide) (by decide) ?_
            show Steps p.tables e below (T78.setTop (mkF m 467 #[.val (.int p0), .val (.int p1), .val (.int p2), .val (.int p3), .val (.int p4), .val (.int p5), .val (.int fr), .val (.int wt), .val (.int hd), .val (.int ld), .val (.int pp), .val (.int qq), .val (.ref b4), .val (.int zb), .val (.int lb), .val (.int tov), .val (.ref hj46.size), .val (.int (own_hx zb)), .val (.int (own_hx lb)), .unset, .unset, .unset, .unset] [(.int (1 : Int32))])) t
            refine XS.istore X78.here hx rfl (hb hby at_467) rfl (l' := #[.val (.int p0), .val (.int p1), .val (.int p2), .val (.int p3), .val (.int p4), .val (.int p5), .val (.int fr), .val (.int wt), .val (.int hd), .val (.int ld), .val (.int pp), .val (.int qq), .val (.ref b4), .val (.int zb), .val (.int lb), .val (.int tov), .val (.ref hj46.size), .val (.int (own_hx zb)), .val (.int (own_hx lb)), .val (.int (1 : Int32)), .unset, .unset, .unset]) rfl ?_
            show Steps p.tables e below (T78.setTop (mkF m 469 #[.val (.int p0), .val (.int p1), .val (.int p2), .val (.int p3), .val (.int p4), .val (.int p5), .val (.int fr), .val (.int wt), .val (.int hd), .val (.int ld), .val (.int pp), .val (.int qq), .val (.ref b4), .val (.int zb), .val (.int lb), .val (.int tov), .val (.ref hj46.size), .val (.int (own_hx zb)), .val (.int (own_hx lb)), .val (.int (1 : Int32)), .unset, .unset, .unset] [])) t
            refine XS.iload X78.here hx rfl (hb hby at_469) rfl ?_
            show Steps p.tables e below (T78.setTop (mkF m 471 #[.val (.int p0), .val (.int p1), .val (.int p2), .val (.int p3), .val (.int p4), .val (.int p5), .val (.int fr), .val (.int wt), .val (.int hd), .val (.int ld), .val (.int pp), .val (.int qq), .val (.ref b4), .val (.int zb), .val (.int lb), .val (.int tov), .val (.ref hj46.size), .val (.int (own_hx zb)), .val (.int (own_hx lb)), .val (.int (1 : Int32)), .unset, .unset, .unset] [(.int (1 : Int32))])) t
            refine XS.ifNo X78.here hx rfl (hb hby at_471) rfl (by decide) ?_
            show Steps p.tables e below (T78.setTop (mkF m 474 #[.val (.int p0), .val (.int p1), .val (.int p2), .val (.int p3), .val (.int p4), .val (.int p5), .val (.int fr), .val (.int wt), .val (.int hd), .val (.int ld), .val (.int pp), .val (.int qq), .val (.ref b4), .val (.int zb), .val (.int lb), .val (.int tov), .val (.ref hj46.size), .val (.int (own_hx zb)), .val (.int (own_hx lb)), .val (.int (1 : Int32)), .unset, .unset, .unset] [])) t
            refine XS.aload X78.here hx rfl (hb hby at_474) rfl rfl ?_
            show Steps p.tables e below (T78.setTop (mkF m 476 #[.val (.int p0), .val (.int p1), .val (.int p2), .val (.int p3), .val (.int p4), .val (.int p5), .val (.int fr), .val (.int wt), .val (.int hd), .val (.int ld), .val (.int pp), .val (.int qq), .val (.ref b4), .val (.int zb), .val (.int lb), .val (.int tov), .val (.ref hj46.size), .val (.int (own_hx zb)), .val (.int (own_hx lb)), .val (.int (1 : Int32)), .unset, .unset, .unset] [(.ref b4)])) t
            refine XS.iload X78.here hx rfl (hb hby at_476) rfl ?_
            show Steps p.tables e below (T78.setTop (mkF m 478 #[.val (.int p0), .val (.int p1), .val (.int p2), .val (.int p3), .val (.int p4), .val (.int p5), .val (.int fr), .val (.int wt), .val (.int hd), .val (.int ld), .val (.int pp), .val (.int qq), .val (.ref b4), .val (.int zb), .val (.int lb), .val (.int tov), .val (.ref hj46.size), .val (.int (own_hx zb)), .val (.int (own_hx lb)), .val (.int (1 : Int32)), .unset, .unset, .unset] [(.int fr), (.ref b4)])) t
            refine XS.iconst X78.here hx rfl (hb hby at_478) ?_
            show Steps p.tables e below (T78.setTop (mkF m 479 #[.val (.int p0), .val (.int p1), .val (.int p2), .val (.int p3), .val (.int p4), .val (.int p5), .val (.int fr), .val (.int wt), .val (.int hd), .val (.int ld), .val (.int pp), .val (.int qq), .val (.ref b4), .val (.int zb), .val (.int lb), .val (.int tov), .val (.ref hj46.size), .val (.int (own_hx zb)), .val (.int (own_hx lb)), .val (.int (1 : Int32)), .unset, .unset, .unset] [(.int (2 : Int32)), (.int fr), (.ref b4)])) t
            refine XS.iload X78.here hx rfl (hb hby at_479) rfl ?_
            show Steps p.tables e below (T78.setTop (mkF m 481 #[.val (.int p0), .val (.int p1), .val (.int p2), .val (.int p3), .val (.int p4), .val (.int p5), .val (.int fr), .val (.int wt), .val (.int hd), .val (.int ld), .val (.int pp), .val (.int qq), .val (.ref b4), .val (.int zb), .val (.int lb), .val (.int tov), .val (.ref hj46.size), .val (.int (own_hx zb)), .val (.int (own_hx lb)), .val (.int (1 : Int32)), .unset, .unset, .unset] [(.int qq), (.int (2 : Int32)), (.int fr), (.ref b4)])) t
            refine XS.imul X78.here hx rfl (hb hby at_481) rfl ?_
            show Steps p.tables e below (T78.setTop (mkF m 482 #[.val (.int p0), .val (.int p1), .val (.int p2), .val (.int p3), .val (.int p4), .val (.int p5), .val (.int fr), .val (.int wt), .val (.int hd), .val (.int ld), .val (.int pp), .val (.int qq), .val (.ref b4), .val (.int zb), .val (.int lb), .val (.int tov), .val (.ref hj46.size), .val (.int (own_hx zb)), .val (.int (own_hx lb)), .val (.int (1 : Int32)), .unset, .unset, .unset] [(.int ((2 : Int32) * qq)), (.int fr), (.ref b4)])) t
            refine XS.iadd X78.here hx rfl (hb hby at_482) rfl ?_
            show Steps p.tables e below (T78.setTop (mkF m 483 #[.val (.int p0), .val (.int p1), .val (.int p2), .val (.int p3), .val (.int p4), .val (.int p5), .val (.int fr), .val (.int wt), .val (.int hd), .val (.int ld), .val (.int pp), .val (.int qq), .val (.ref b4), .val (.int zb), .val (.int lb), .val (.int tov), .val (.ref hj46.size), .val (.int (own_hx zb)), .val (.int (own_hx lb)), .val (.int (1 : Int32)), .unset, .unset, .unset] [(.int (fr + ((2 : Int32) * qq))), (.ref b4)])) t
            refine own_baload X78 hx hZ e78 fj46_0 (i := (k + 2 * kq)) (own_ixl hk hk3 hkq hkq15) (by omega) (g := (mkF m 483 #[.val (.int p0), .val (.int p1), .val (.int p2), .val (.int p3), .val (.int p4), .val (.int p5), .val (.int fr), .val (.int wt), .val (.int hd), .val (.int ld), .val (.int pp), .val (.int qq), .val (.ref b4), .val (.int zb), .val (.int lb), .val (.int tov), .val (.ref hj46.size), .val (.int (own_hx zb)), .val (.int (own_hx lb)), .val (.int (1 : Int32)), .unset, .unset, .unset] [(.int (fr + ((2 : Int32) * qq))), (.ref b4)])) rfl rfl (hb hby at_483) _ ?_
            show Steps p.tables e below (T78.setTop (mkF m 484 #[.val (.int p0), .val (.int p1), .val (.int p2), .val (.int p3), .val (.int p4), .val (.int p5), .val (.int fr), .val (.int wt), .val (.int hd), .val (.int ld), .val (.int pp), .val (.int qq), .val (.ref b4), .val (.int zb), .val (.int lb), .val (.int tov), .val (.ref hj46.size), .val (.int (own_hx zb)), .val (.int (own_hx lb)), .val (.int (1 : Int32)), .unset, .unset, .unset] [(.int (fl (k + 2 * kq)))])) t
            exact kt
          refine own_callSp X78 hx hZ hown e78 (hw _ (List.mem_of_getElem? (i := 20) rfl)) (hw _ (List.mem_of_getElem? (i := 21) rfl)) (hw _ (List.mem_of_getElem? (i := 3) rfl)) (hw _ (List.mem_of_getElem? (i := 22) rfl)) (by decide) (rm4 l Z aw hw (fl (k + 2 * kq)) T74.heap n0 ZKq74) (g := (mkF m 484 #[.val (.int p0), .val (.int p1), .val (.int p2), .val (.int p3), .val (.int p4), .val (.int p5), .val (.int fr), .val (.int wt), .val (.int hd), .val (.int ld), .val (.int pp), .val (.int qq), .val (.ref b4), .val (.int zb), .val (.int lb), .val (.int tov), .val (.ref hj46.size), .val (.int (own_hx zb)), .val (.int (own_hx lb)), .val (.int (1 : Int32)), .unset, .unset, .unset] [(.int (fl (k + 2 * kq)))])) rfl (by rw [hml]; rfl) (argsL := [(.int (fl (k + 2 * kq)))]) (rest := []) (lenOf pd_5 rfl) rfl rfl (W := 0) (by show 2 * 0 + _ ≤ _; exact Nat.le_of_eq rfl) (hb hby at_484) (by decide) (by decide) (by decide) (by decide) ?_
          intro T80 X80 e80
          refine own_go (T' := T80) (f' := (mkF m 501 #[.val (.int p0), .val (.int p1), .val (.int p2), .val (.int p3), .val (.int p4), .val (.int p5), .val (.int fr), .val (.int wt), .val (.int hd), .val (.int ld), .val (.int pp), .val (.int qq), .val (.ref b4), .val (.int zb), .val (.int lb), .val (.int tov), .val (.ref hj46.size), .val (.int (own_hx zb)), .val (.int (own_hx lb)), .val (.int (1 : Int32)), .val (.int (own_hx (fl (k + 2 * kq)))), .unset, .unset] [(.int (fl (k + 2 * kq + 1)))])) (fun t kt => ?_) ?_
          · show Steps p.tables e below (T80.setTop (mkF m 487 #[.val (.int p0), .val (.int p1), .val (.int p2), .val (.int p3), .val (.int p4), .val (.int p5), .val (.int fr), .val (.int wt), .val (.int hd), .val (.int ld), .val (.int pp), .val (.int qq), .val (.ref b4), .val (.int zb), .val (.int lb), .val (.int tov), .val (.ref hj46.size), .val (.int (own_hx zb)), .val (.int (own_hx lb)), .val (.int (1 : Int32)), .unset, .unset, .unset] [(.int (own_hx (fl (k + 2 * kq))))])) t
            refine XS.istore X80.here hx rfl (hb hby at_487) rfl (l' := #[.val (.int p0), .val (.int p1), .val (.int p2), .val (.int p3), .val (.int p4), .val (.int p5), .val (.int fr), .val (.int wt), .val (.int hd), .val (.int ld), .val (.int pp), .val (.int qq), .val (.ref b4), .val (.int zb), .val (.int lb), .val (.int tov), .val (.ref hj46.size), .val (.int (own_hx zb)), .val (.int (own_hx lb)), .val (.int (1 : Int32)), .val (.int (own_hx (fl (k + 2 * kq)))), .unset, .unset]) rfl ?_
            show Steps p.tables e below (T80.setTop (mkF m 489 #[.val (.int p0), .val (.int p1), .val (.int p2), .val (.int p3), .val (.int p4), .val (.int p5), .val (.int fr), .val (.int wt), .val (.int hd), .val (.int ld), .val (.int pp), .val (.int qq), .val (.ref b4), .val (.int zb), .val (.int lb), .val (.int tov), .val (.ref hj46.size), .val (.int (own_hx zb)), .val (.int (own_hx lb)), .val (.int (1 : Int32)), .val (.int (own_hx (fl (k + 2 * kq)))), .unset, .unset] [])) t
            refine XS.aload X80.here hx rfl (hb hby at_489) rfl rfl ?_
            show Steps p.tables e below (T80.setTop (mkF m 491 #[.val (.int p0), .val (.int p1), .val (.int p2), .val (.int p3), .val (.int p4), .val (.int p5), .val (.int fr), .val (.int wt), .val (.int hd), .val (.int ld), .val (.int pp), .val (.int qq), .val (.ref b4), .val (.int zb), .val (.int lb), .val (.int tov), .val (.ref hj46.size), .val (.int (own_hx zb)), .val (.int (own_hx lb)), .val (.int (1 : Int32)), .val (.int (own_hx (fl (k + 2 * kq)))), .unset, .unset] [(.ref b4)])) t
            refine XS.iload X80.here hx rfl (hb hby at_491) rfl ?_
            show Steps p.tables e below (T80.setTop (mkF m 493 #[.val (.int p0), .val (.int p1), .val (.int p2), .val (.int p3), .val (.int p4), .val (.int p5), .val (.int fr), .val (.int wt), .val (.int hd), .val (.int ld), .val (.int pp), .val (.int qq), .val (.ref b4), .val (.int zb), .val (.int lb), .val (.int tov), .val (.ref hj46.size), .val (.int (own_hx zb)), .val (.int (own_hx lb)), .val (.int (1 : Int32)), .val (.int (own_hx (fl (k + 2 * kq)))), .unset, .unset] [(.int fr), (.ref b4)])) t
            refine XS.iconst X80.here hx rfl (hb hby at_493) ?_
            show Steps p.tables e below (T80.setTop (mkF m 494 #[.val (.int p0), .val (.int p1), .val (.int p2), .val (.int p3), .val (.int p4), .val (.int p5), .val (.int fr), .val (.int wt), .val (.int hd), .val (.int ld), .val (.int pp), .val (.int qq), .val (.ref b4), .val (.int zb), .val (.int lb), .val (.int tov), .val (.ref hj46.size), .val (.int (own_hx zb)), .val (.int (own_hx lb)), .val (.int (1 : Int32)), .val (.int (own_hx (fl (k + 2 * kq)))), .unset, .unset] [(.int (2 : Int32)), (.int fr), (.ref b4)])) t
            refine XS.iload X80.here hx rfl (hb hby at_494) rfl ?_
            show Steps p.tables e below (T80.setTop (mkF m 496 #[.val (.int p0), .val (.int p1), .val (.int p2), .val (.int p3), .val (.int p4), .val (.int p5), .val (.int fr), .val (.int wt), .val (.int hd), .val (.int ld), .val (.int pp), .val (.int qq), .val (.ref b4), .val (.int zb), .val (.int lb), .val (.int tov), .val (.ref hj46.size), .val (.int (own_hx zb)), .val (.int (own_hx lb)), .val (.int (1 : Int32)), .val (.int (own_hx (fl (k + 2 * kq)))), .unset, .unset] [(.int qq), (.int (2 : Int32)), (.int fr), (.ref b4)])) t
            refine XS.imul X80.here hx rfl (hb hby at_496) rfl ?_
            show Steps p.tables e below (T80.setTop (mkF m 497 #[.val (.int p0), .val (.int p1), .val (.int p2), .val (.int p3), .val (.int p4), .val (.int p5), .val (.int fr), .val (.int wt), .val (.int hd), .val (.int ld), .val (.int pp), .val (.int qq), .val (.ref b4), .val (.int zb), .val (.int lb), .val (.int tov), .val (.ref hj46.size), .val (.int (own_hx zb)), .val (.int (own_hx lb)), .val (.int (1 : Int32)), .val (.int (own_hx (fl (k + 2 * kq)))), .unset, .unset] [(.int ((2 : Int32) * qq)), (.int fr), (.ref b4)])) t
            refine XS.iadd X80.here hx rfl (hb hby at_497) rfl ?_
            show Steps p.tables e below (T80.setTop (mkF m 498 #[.val (.int p0), .val (.int p1), .val (.int p2), .val (.int p3), .val (.int p4), .val (.int p5), .val (.int fr), .val (.int wt), .val (.int hd), .val (.int ld), .val (.int pp), .val (.int qq), .val (.ref b4), .val (.int zb), .val (.int lb), .val (.int tov), .val (.ref hj46.size), .val (.int (own_hx zb)), .val (.int (own_hx lb)), .val (.int (1 : Int32)), .val (.int (own_hx (fl (k + 2 * kq)))), .unset, .unset] [(.int (fr + ((2 : Int32) * qq))), (.ref b4)])) t
            refine XS.iconst X80.here hx rfl (hb hby at_498) ?_
            show Steps p.tables e below (T80.setTop (mkF m 499 #[.val (.int p0), .val (.int p1), .val (.int p2), .val (.int p3), .val (.int p4), .val (.int p5), .val (.int fr), .val (.int wt), .val (.int hd), .val (.int ld), .val (.int pp), .val (.int qq), .val (.ref b4), .val (.int zb), .val (.int lb), .val (.int tov), .val (.ref hj46.size), .val (.int (own_hx zb)), .val (.int (own_hx lb)), .val (.int (1 : Int32)), .val (.int (own_hx (fl (k + 2 * kq)))), .unset, .unset] [(.int (1 : Int32)), (.int (fr + ((2 : Int32) * qq))), (.ref b4)])) t
            refine XS.iadd X80.here hx rfl (hb hby at_499) rfl ?_
            show Steps p.tables e below (T80.setTop (mkF m 500 #[.val (.int p0), .val (.int p1), .val (.int p2), .val (.int p3), .val (.int p4), .val (.int p5), .val (.int fr), .val (.int wt), .val (.int hd), .val (.int ld), .val (.int pp), .val (.int qq), .val (.ref b4), .val (.int zb), .val (.int lb), .val (.int tov), .val (.ref hj46.size), .val (.int (own_hx zb)), .val (.int (own_hx lb)), .val (.int (1 : Int32)), .val (.int (own_hx (fl (k + 2 * kq)))), .unset, .unset] [(.int ((fr + ((2 : Int32) * qq)) + (1 : Int32))), (.ref b4)])) t
            refine own_baload X80 hx hZ e80 fj46_0 (i := (k + 2 * kq + 1)) (own_ixl1 hk hk3 hkq hkq15) (by omega) (g := (mkF m 500 #[.val (.int p0), .val (.int p1), .val (.int p2), .val (.int p3), .val (.int p4), .val (.int p5), .val (.int fr), .val (.int wt), .val (.int hd), .val (.int ld), .val (.int pp), .val (.int qq), .val (.ref b4), .val (.int zb), .val (.int lb), .val (.int tov), .val (.ref hj46.size), .val (.int (own_hx zb)), .val (.int (own_hx lb)), .val (.int (1 : Int32)), .val (.int (own_hx (fl (k + 2 * kq)))), .unset, .unset] [(.int ((fr + ((2 : Int32) * qq)) + (1 : Int32))), (.ref b4)])) rfl rfl (hb hby at_500) _ ?_
            show Steps p.tables e below (T80.setTop (mkF m 501 #[.val (.int p0), .val (.int p1), .val (.int p2), .val (.int p3), .val (.int p4), .val (.int p5), .val (.int fr), .val (.int wt), .val (.int hd), .val (.int ld), .val (.int pp), .val (.int qq), .val (.ref b4), .val (.int zb), .val (.int lb), .val (.int tov), .val (.ref hj46.size), .val (.int (own_hx zb)), .val (.int (own_hx lb)), .val (.int (1 : Int32)), .val (.int (own_hx (fl (k + 2 * kq)))), .unset, .unset] [(.int (fl (k + 2 * kq + 1)))])) t
            exact kt
          refine own_callSp X80 hx hZ hown e80 (hw _ (List.mem_of_getElem? (i := 20) rfl)) (hw _ (List.mem_of_getElem? (i := 21) rfl)) (hw _ (List.mem_of_getElem? (i := 3) rfl)) (hw _ (List.mem_of_getElem? (i := 22) rfl)) (by decide) (rm4 l Z aw hw (fl (k + 2 * kq + 1)) T74.heap n0 ZKq74) (g := (mkF m 501 #[.val (.int p0), .val (.int p1), .val (.int p2), .val (.int p3), .val (.int p4), .val (.int p5), .val (.int fr), .val (.int wt), .val (.int hd), .val (.int ld), .val (.int pp), .val (.int qq), .val (.ref b4), .val (.int zb), .val (.int lb), .val (.int tov), .val (.ref hj46.size), .val (.int (own_hx zb)), .val (.int (own_hx lb)), .val (.int (1 : Int32)), .val (.int (own_hx (fl (k + 2 * kq)))), .unset, .unset] [(.int (fl (k + 2 * kq + 1)))])) rfl (by rw [hml]; rfl) (argsL := [(.int (fl (k + 2 * kq + 1)))]) (rest := []) (lenOf pd_5 rfl) rfl rfl (W := 0) (by show 2 * 0 + _ ≤ _; exact Nat.le_of_eq rfl) (hb hby at_501) (by decide) (by decide) (by decide) (by decide) ?_
          intro T81 X81 e81
          refine own_go (T' := T81) (f' := (mkF m 529 #[.val (.int p0), .val (.int p1), .val (.int p2), .val (.int p3), .val (.int p4), .val (.int p5), .val (.int fr), .val (.int wt), .val (.int hd), .val (.int ld), .val (.int pp), .val (.int qq), .val (.ref b4), .val (.int zb), .val (.int lb), .val (.int tov), .val (.ref hj46.size), .val (.int (own_hx zb)), .val (.int (own_hx lb)), .val (.int (1 : Int32)), .val (.int (own_hx (fl (k + 2 * kq)))), .val (.int (own_hx (fl (k + 2 * kq + 1)))), .unset] [])) (fun t kt => ?_) ?_
          · show Steps p.tables e below (T81.setTop (mkF m 504 #[.val (.int p0), .val (.int p1), .val (.int p2), .val (.int p3), .val (.int p4), .val (.int p5), .val (.int fr), .val (.int wt), .val (.int hd), .val (.int ld), .val (.int pp), .val (.int qq), .val (.ref b4), .val (.int zb), .val (.int lb), .val (.int tov), .val (.ref hj46.size), .val (.int (own_hx zb)), .val (.int (own_hx lb)), .val (.int (1 : Int32)), .val (.int (own_hx (fl (k + 2 * kq)))), .unset, .unset] [(.int (own_hx (fl (k + 2 * kq + 1))))])) t
            refine XS.istore X81.here hx rfl (hb hby at_504) rfl (l' := #[.val (.int p0), .val (.int p1), .val (.int p2), .val (.int p3), .val (.int p4), .val (.int p5), .val (.int fr), .val (.int wt), .val (.int hd), .val (.int ld), .val (.int pp), .val (.int qq), .val (.ref b4), .val (.int zb), .val (.int lb), .val (.int tov), .val (.ref hj46.size), .val (.int (own_hx zb)), .val (.int (own_hx lb)), .val (.int (1 : Int32)), .val (.int (own_hx (fl (k + 2 * kq)))), .val (.int (own_hx (fl (k + 2 * kq + 1)))), .unset]) rfl ?_
            show Steps p.tables e below (T81.setTop (mkF m 506 #[.val (.int p0), .val (.int p1), .val (.int p2), .val (.int p3), .val (.int p4), .val (.int p5), .val (.int fr), .val (.int wt), .val (.int hd), .val (.int ld), .val (.int pp), .val (.int qq), .val (.ref b4), .val (.int zb), .val (.int lb), .val (.int tov), .val (.ref hj46.size), .val (.int (own_hx zb)), .val (.int (own_hx lb)), .val (.int (1 : Int32)), .val (.int (own_hx (fl (k + 2 * kq)))), .val (.int (own_hx (fl (k + 2 * kq + 1)))), .unset] [])) t
            refine XS.aload X81.here hx rfl (hb hby at_506) rfl rfl ?_
            show Steps p.tables e below (T81.setTop (mkF m 508 #[.val (.int p0), .val (.int p1), .val (.int p2), .val (.int p3), .val (.int p4), .val (.int p5), .val (.int fr), .val (.int wt), .val (.int hd), .val (.int ld), .val (.int pp), .val (.int qq), .val (.ref b4), .val (.int zb), .val (.int lb), .val (.int tov), .val (.ref hj46.size), .val (.int (own_hx zb)), .val (.int (own_hx lb)), .val (.int (1 : Int32)), .val (.int (own_hx (fl (k + 2 * kq)))), .val (.int (own_hx (fl (k + 2 * kq + 1)))), .unset] [(.ref hj46.size)])) t
            refine XS.iload X81.here hx rfl (hb hby at_508) rfl ?_
            show Steps p.tables e below (T81.setTop (mkF m 510 #[.val (.int p0), .val (.int p1), .val (.int p2), .val (.int p3), .val (.int p4), .val (.int p5), .val (.int fr), .val (.int wt), .val (.int hd), .val (.int ld), .val (.int pp), .val (.int qq), .val (.ref b4), .val (.int zb), .val (.int lb), .val (.int tov), .val (.ref hj46.size), .val (.int (own_hx zb)), .val (.int (own_hx lb)), .val (.int (1 : Int32)), .val (.int (own_hx (fl (k + 2 * kq)))), .val (.int (own_hx (fl (k + 2 * kq + 1)))), .unset] [(.int qq), (.ref hj46.size)])) t
            refine own_baload X81 hx hZ e81 Pq74_0 (i := kq) hkq (by omega) (g := (mkF m 510 #[.val (.int p0), .val (.int p1), .val (.int p2), .val (.int p3), .val (.int p4), .val (.int p5), .val (.int fr), .val (.int wt), .val (.int hd), .val (.int ld), .val (.int pp), .val (.int qq), .val (.ref b4), .val (.int zb), .val (.int lb), .val (.int tov), .val (.ref hj46.size), .val (.int (own_hx zb)), .val (.int (own_hx lb)), .val (.int (1 : Int32)), .val (.int (own_hx (fl (k + 2 * kq)))), .val (.int (own_hx (fl (k + 2 * kq + 1)))), .unset] [(.int qq), (.ref hj46.size)])) rfl rfl (hb hby at_510) _ ?_
            show Steps p.tables e below (T81.setTop (mkF m 511 #[.val (.int p0), .val (.int p1), .val (.int p2), .val (.int p3), .val (.int p4), .val (.int p5), .val (.int fr), .val (.int wt), .val (.int hd), .val (.int ld), .val (.int pp), .val (.int qq), .val (.ref b4), .val (.int zb), .val (.int lb), .val (.int tov), .val (.ref hj46.size), .val (.int (own_hx zb)), .val (.int (own_hx lb)), .val (.int (1 : Int32)), .val (.int (own_hx (fl (k + 2 * kq)))), .val (.int (own_hx (fl (k + 2 * kq + 1)))), .unset] [(.int ((own_pv fl k) kq))])) t
            refine XS.iload X81.here hx rfl (hb hby at_511) rfl ?_
            show Steps p.tables e below (T81.setTop (mkF m 513 #[.val (.int p0), .val (.int p1), .val (.int p2), .val (.int p3), .val (.int p4), .val (.int p5), .val (.int fr), .val (.int wt), .val (.int hd), .val (.int ld), .val (.int pp), .val (.int qq), .val (.ref b4), .val (.int zb), .val (.int lb), .val (.int tov), .val (.ref hj46.size), .val (.int (own_hx zb)), .val (.int (own_hx lb)), .val (.int (1 : Int32)), .val (.int (own_hx (fl (k + 2 * kq)))), .val (.int (own_hx (fl (k + 2 * kq + 1)))), .unset] [(.int (own_hx (fl (k + 2 * kq)))), (.int ((own_pv fl k) kq))])) t
            refine XS.iconst X81.here hx rfl (hb hby at_513) ?_
            show Steps p.tables e below (T81.setTop (mkF m 514 #[.val (.int p0), .val (.int p1), .val (.int p2), .val (.int p3), .val (.int p4), .val (.int p5), .val (.int fr), .val (.int wt), .val (.int hd), .val (.int ld), .val (.int pp), .val (.int qq), .val (.ref b4), .val (.int zb), .val (.int lb), .val (.int tov), .val (.ref hj46.size), .val (.int (own_hx zb)), .val (.int (own_hx lb)), .val (.int (1 : Int32)), .val (.int (own_hx (fl (k + 2 * kq)))), .val (.int (own_hx (fl (k + 2 * kq + 1)))), .unset] [(.int (4 : Int32)), (.int (own_hx (fl (k + 2 * kq)))), (.int ((own_pv fl k) kq))])) t
            refine XS.ishl X81.here hx rfl (hb hby at_514) rfl ?_
            show Steps p.tables e below (T81.setTop (mkF m 515 #[.val (.int p0), .val (.int p1), .val (.int p2), .val (.int p3), .val (.int p4), .val (.int p5), .val (.int fr), .val (.int wt), .val (.int hd), .val (.int ld), .val (.int pp), .val (.int qq), .val (.ref b4), .val (.int zb), .val (.int lb), .val (.int tov), .val (.ref hj46.size), .val (.int (own_hx zb)), .val (.int (own_hx lb)), .val (.int (1 : Int32)), .val (.int (own_hx (fl (k + 2 * kq)))), .val (.int (own_hx (fl (k + 2 * kq + 1)))), .unset] [(.int ((own_hx (fl (k + 2 * kq))) <<< ((4 : Int32) &&& 31))), (.int ((own_pv fl k) kq))])) t
            refine XS.iload X81.here hx rfl (hb hby at_515) rfl ?_
            show Steps p.tables e below (T81.setTop (mkF m 517 #[.val (.int p0), .val (.int p1), .val (.int p2), .val (.int p3), .val (.int p4), .val (.int p5), .val (.int fr), .val (.int wt), .val (.int hd), .val (.int ld), .val (.int pp), .val (.int qq), .val (.ref b4), .val (.int zb), .val (.int lb), .val (.int tov), .val (.ref hj46.size), .val (.int (own_hx zb)), .val (.int (own_hx lb)), .val (.int (1 : Int32)), .val (.int (own_hx (fl (k + 2 * kq)))), .val (.int (own_hx (fl (k + 2 * kq + 1)))), .unset] [(.int (own_hx (fl (k + 2 * kq + 1)))), (.int ((own_hx (fl (k + 2 * kq))) <<< ((4 : Int32) &&& 31))), (.int ((own_pv fl k) kq))])) t
            refine XS.ior X81.here hx rfl (hb hby at_517) rfl ?_
            show Steps p.tables e below (T81.setTop (mkF m 518 #[.val (.int p0), .val (.int p1), .val (.int p2), .val (.int p3), .val (.int p4), .val (.int p5), .val (.int fr), .val (.int wt), .val (.int hd), .val (.int ld), .val (.int pp), .val (.int qq), .val (.ref b4), .val (.int zb), .val (.int lb), .val (.int tov), .val (.ref hj46.size), .val (.int (own_hx zb)), .val (.int (own_hx lb)), .val (.int (1 : Int32)), .val (.int (own_hx (fl (k + 2 * kq)))), .val (.int (own_hx (fl (k + 2 * kq + 1)))), .unset] [(.int (((own_hx (fl (k + 2 * kq))) <<< ((4 : Int32) &&& 31)) ||| (own_hx (fl (k + 2 * kq + 1))))), (.int ((own_pv fl k) kq))])) t
            refine XS.i2b X81.here hx rfl (hb hby at_518) rfl ?_
            show Steps p.tables e below (T81.setTop (mkF m 519 #[.val (.int p0), .val (.int p1), .val (.int p2), .val (.int p3), .val (.int p4), .val (.int p5), .val (.int fr), .val (.int wt), .val (.int hd), .val (.int ld), .val (.int pp), .val (.int qq), .val (.ref b4), .val (.int zb), .val (.int lb), .val (.int tov), .val (.ref hj46.size), .val (.int (own_hx zb)), .val (.int (own_hx lb)), .val (.int (1 : Int32)), .val (.int (own_hx (fl (k + 2 * kq)))), .val (.int (own_hx (fl (k + 2 * kq + 1)))), .unset] [(.int ((((own_hx (fl (k + 2 * kq))) <<< ((4 : Int32) &&& 31)) ||| (own_hx (fl (k + 2 * kq + 1)))).toInt8.toInt32)), (.int ((own_pv fl k) kq))])) t
            refine XS.icmpNo X81.here hx rfl (hb hby at_519) rfl (teq (show ((own_pv fl k) kq) = ((((own_hx (fl (k + 2 * kq))) <<< ((4 : Int32) &&& 31)) ||| (own_hx (fl (k + 2 * kq + 1)))).toInt8.toInt32) from rfl)).2 ?_
            show Steps p.tables e below (T81.setTop (mkF m 522 #[.val (.int p0), .val (.int p1), .val (.int p2), .val (.int p3), .val (.int p4), .val (.int p5), .val (.int fr), .val (.int wt), .val (.int hd), .val (.int ld), .val (.int pp), .val (.int qq), .val (.ref b4), .val (.int zb), .val (.int lb), .val (.int tov), .val (.ref hj46.size), .val (.int (own_hx zb)), .val (.int (own_hx lb)), .val (.int (1 : Int32)), .val (.int (own_hx (fl (k + 2 * kq)))), .val (.int (own_hx (fl (k + 2 * kq + 1)))), .unset] [])) t
            refine XS.iconst X81.here hx rfl (hb hby at_522) ?_
            show Steps p.tables e below (T81.setTop (mkF m 523 #[.val (.int p0), .val (.int p1), .val (.int p2), .val (.int p3), .val (.int p4), .val (.int p5), .val (.int fr), .val (.int wt), .val (.int hd), .val (.int ld), .val (.int pp), .val (.int qq), .val (.ref b4), .val (.int zb), .val (.int lb), .val (.int tov), .val (.ref hj46.size), .val (.int (own_hx zb)), .val (.int (own_hx lb)), .val (.int (1 : Int32)), .val (.int (own_hx (fl (k + 2 * kq)))), .val (.int (own_hx (fl (k + 2 * kq + 1)))), .unset] [(.int (1 : Int32))])) t
            refine XS.goto X81.here hx rfl (pc0 := 523) (pc' := 527) rfl (hb hby at_523) (by decide) (by decide) ?_
            show Steps p.tables e below (T81.setTop (mkF m 527 #[.val (.int p0), .val (.int p1), .val (.int p2), .val (.int p3), .val (.int p4), .val (.int p5), .val (.int fr), .val (.int wt), .val (.int hd), .val (.int ld), .val (.int pp), .val (.int qq), .val (.ref b4), .val (.int zb), .val (.int lb), .val (.int tov), .val (.ref hj46.size), .val (.int (own_hx zb)), .val (.int (own_hx lb)), .val (.int (1 : Int32)), .val (.int (own_hx (fl (k + 2 * kq)))), .val (.int (own_hx (fl (k + 2 * kq + 1)))), .unset] [(.int (1 : Int32))])) t
            refine XS.istore X81.here hx rfl (hb hby at_527) rfl (l' := #[.val (.int p0), .val (.int p1), .val (.int p2), .val (.int p3), .val (.int p4), .val (.int p5), .val (.int fr), .val (.int wt), .val (.int hd), .val (.int ld), .val (.int pp), .val (.int qq), .val (.ref b4), .val (.int zb), .val (.int lb), .val (.int tov), .val (.ref hj46.size), .val (.int (own_hx zb)), .val (.int (own_hx lb)), .val (.int (1 : Int32)), .val (.int (own_hx (fl (k + 2 * kq)))), .val (.int (own_hx (fl (k + 2 * kq + 1)))), .unset]) rfl ?_
            show Steps p.tables e below (T81.setTop (mkF m 529 #[.val (.int p0), .val (.int p1), .val (.int p2), .val (.int p3), .val (.int p4), .val (.int p5), .val (.int fr), .val (.int wt), .val (.int hd), .val (.int ld), .val (.int pp), .val (.int qq), .val (.ref b4), .val (.int zb), .val (.int lb), .val (.int tov), .val (.ref hj46.size), .val (.int (own_hx zb)), .val (.int (own_hx lb)), .val (.int (1 : Int32)), .val (.int (own_hx (fl (k + 2 * kq)))), .val (.int (own_hx (fl (k + 2 * kq + 1)))), .unset] [])) t
            exact kt
          exact J529 T81 _ T74.heap (.val (.ref hj46.size)) (.val (.int (own_hx (fl (k + 2 * kq))))) (.val (.int (own_hx (fl (k + 2 * kq + 1))))) X81 N74 e81 kzKq74 ZKq74 KKKq74 fj46_0 (One.val rfl) (One.val rfl) (One.val rfl)
    · refine own_callVp X63 hx hZ hown e63 (hw _ (List.mem_of_getElem? (i := 8) rfl)) (hw _ (List.mem_of_getElem? (i := 9) rfl)) (notFace_of_selects (args := #[]) (mvT hZ (hw _ (List.mem_of_getElem? (i := 11) rfl)))) (hw _ (List.mem_of_getElem? (i := 11) rfl)) (hw _ (List.mem_of_getElem? (i := 10) rfl)) (hw _ (List.mem_of_getElem? (i := 6) rfl)) (hw _ (List.mem_of_getElem? (i := 12) rfl)) (by decide) (rm2n l Z aw hw xa b4 fr tov (16 : Int32) hj46 n0 Zj46 (F_xa.keep Kj46 nin0) (fun q => h32 (q.trans (by decide)))) (E_xa.keep Kj46) (g := (mkF m 379 #[.val (.int p0), .val (.int p1), .val (.int p2), .val (.int p3), .val (.int p4), .val (.int p5), .val (.int fr), .val (.int wt), .val (.int hd), .val (.int ld), .val (.int pp), .val (.int qq), .val (.ref b4), .val (.int zb), .val (.int lb), .val (.int tov), .unset, .unset, .unset, .unset, .unset, .unset, .unset] [(.int tov), (.int fr), (.ref b4), (.ref xa)])) rfl (by rw [hml]; rfl) (argsL := [(.ref b4), (.int fr), (.int tov)]) (rest := []) (lenOf pd_7 rfl) rfl rfl (W := 0) (by show 2 * 0 + _ ≤ _; exact Nat.le_of_eq rfl) (hb hby at_379) (by decide) (by decide) (by decide) (by decide) ?_
      intro T82 X82 e82
      refine own_go (T' := T82) (f' := (mkF m 386 #[.val (.int p0), .val (.int p1), .val (.int p2), .val (.int p3), .val (.int p4), .val (.int p5), .val (.int fr), .val (.int wt), .val (.int hd), .val (.int ld), .val (.int pp), .val (.int qq), .val (.ref b4), .val (.int zb), .val (.int lb), .val (.int tov), .val .null, .unset, .unset, .unset, .unset, .unset, .unset] [(.int zb)])) (fun t kt => ?_) ?_
      · show Steps p.tables e below (T82.setTop (mkF m 382 #[.val (.int p0), .val (.int p1), .val (.int p2), .val (.int p3), .val (.int p4), .val (.int p5), .val (.int fr), .val (.int wt), .val (.int hd), .val (.int ld), .val (.int pp), .val (.int qq), .val (.ref b4), .val (.int zb), .val (.int lb), .val (.int tov), .unset, .unset, .unset, .unset, .unset, .unset, .unset] [.null])) t
        refine XS.astore X82.here hx rfl (hb hby at_382) rfl rfl (l' := #[.val (.int p0), .val (.int p1), .val (.int p2), .val (.int p3), .val (.int p4), .val (.int p5), .val (.int fr), .val (.int wt), .val (.int hd), .val (.int ld), .val (.int pp), .val (.int qq), .val (.ref b4), .val (.int zb), .val (.int lb), .val (.int tov), .val .null, .unset, .unset, .unset, .unset, .unset, .unset]) rfl ?_
        show Steps p.tables e below (T82.setTop (mkF m 384 #[.val (.int p0), .val (.int p1), .val (.int p2), .val (.int p3), .val (.int p4), .val (.int p5), .val (.int fr), .val (.int wt), .val (.int hd), .val (.int ld), .val (.int pp), .val (.int qq), .val (.ref b4), .val (.int zb), .val (.int lb), .val (.int tov), .val .null, .unset, .unset, .unset, .unset, .unset, .unset] [])) t
        refine XS.iload X82.here hx rfl (hb hby at_384) rfl ?_
        show Steps p.tables e below (T82.setTop (mkF m 386 #[.val (.int p0), .val (.int p1), .val (.int p2), .val (.int p3), .val (.int p4), .val (.int p5), .val (.int fr), .val (.int wt), .val (.int hd), .val (.int ld), .val (.int pp), .val (.int qq), .val (.ref b4), .val (.int zb), .val (.int lb), .val (.int tov), .val .null, .unset, .unset, .unset, .unset, .unset, .unset] [(.int zb)])) t
        exact kt
      refine own_callSp X82 hx hZ hown e82 (hw _ (List.mem_of_getElem? (i := 20) rfl)) (hw _ (List.mem_of_getElem? (i := 21) rfl)) (hw _ (List.mem_of_getElem? (i := 3) rfl)) (hw _ (List.mem_of_getElem? (i := 22) rfl)) (by decide) (rm4 l Z aw hw zb hj46 n0 Zj46) (g := (mkF m 386 #[.val (.int p0), .val (.int p1), .val (.int p2), .val (.int p3), .val (.int p4), .val (.int p5), .val (.int fr), .val (.int wt), .val (.int hd), .val (.int ld), .val (.int pp), .val (.int qq), .val (.ref b4), .val (.int zb), .val (.int lb), .val (.int tov), .val .null, .unset, .unset, .unset, .unset, .unset, .unset] [(.int zb)])) rfl (by rw [hml]; rfl) (argsL := [(.int zb)]) (rest := []) (lenOf pd_5 rfl) rfl rfl (W := 0) (by show 2 * 0 + _ ≤ _; exact Nat.le_of_eq rfl) (hb hby at_386) (by decide) (by decide) (by decide) (by decide) ?_
      intro T83 X83 e83
      refine own_go (T' := T83) (f' := (mkF m 393 #[.val (.int p0), .val (.int p1), .val (.int p2), .val (.int p3), .val (.int p4), .val (.int p5), .val (.int fr), .val (.int wt), .val (.int hd), .val (.int ld), .val (.int pp), .val (.int qq), .val (.ref b4), .val (.int zb), .val (.int lb), .val (.int tov), .val .null, .val (.int (own_hx zb)), .unset, .unset, .unset, .unset, .unset] [(.int lb)])) (fun t kt => ?_) ?_
      · show Steps p.tables e below (T83.setTop (mkF m 389 #[.val (.int p0), .val (.int p1), .val (.int p2), .val (.int p3), .val (.int p4), .val (.int p5), .val (.int fr), .val (.int wt), .val (.int hd), .val (.int ld), .val (.int pp), .val (.int qq), .val (.ref b4), .val (.int zb), .val (.int lb), .val (.int tov), .val .null, .unset, .unset, .unset, .unset, .unset, .unset] [(.int (own_hx zb))])) t
        refine XS.istore X83.here hx rfl (hb hby at_389) rfl (l' := #[.val (.int p0), .val (.int p1), .val (.int p2), .val (.int p3), .val (.int p4), .val (.int p5), .val (.int fr), .val (.int wt), .val (.int hd), .val (.int ld), .val (.int pp), .val (.int qq), .val (.ref b4), .val (.int zb), .val (.int lb), .val (.int tov), .val .null, .val (.int (own_hx zb)), .unset, .unset, .unset, .unset, .unset]) rfl ?_
        show Steps p.tables e below (T83.setTop (mkF m 391 #[.val (.int p0), .val (.int p1), .val (.int p2), .val (.int p3), .val (.int p4), .val (.int p5), .val (.int fr), .val (.int wt), .val (.int hd), .val (.int ld), .val (.int pp), .val (.int qq), .val (.ref b4), .val (.int zb), .val (.int lb), .val (.int tov), .val .null, .val (.int (own_hx zb)), .unset, .unset, .unset, .unset, .unset] [])) t
        refine XS.iload X83.here hx rfl (hb hby at_391) rfl ?_
        show Steps p.tables e below (T83.setTop (mkF m 393 #[.val (.int p0), .val (.int p1), .val (.int p2), .val (.int p3), .val (.int p4), .val (.int p5), .val (.int fr), .val (.int wt), .val (.int hd), .val (.int ld), .val (.int pp), .val (.int qq), .val (.ref b4), .val (.int zb), .val (.int lb), .val (.int tov), .val .null, .val (.int (own_hx zb)), .unset, .unset, .unset, .unset, .unset] [(.int lb)])) t
        exact kt
      refine own_callSp X83 hx hZ hown e83 (hw _ (List.mem_of_getElem? (i := 20) rfl)) (hw _ (List.mem_of_getElem? (i := 21) rfl)) (hw _ (List.mem_of_getElem? (i := 3) rfl)) (hw _ (List.mem_of_getElem? (i := 22) rfl)) (by decide) (rm4 l Z aw hw lb hj46 n0 Zj46) (g := (mkF m 393 #[.val (.int p0), .val (.int p1), .val (.int p2), .val (.int p3), .val (.int p4), .val (.int p5), .val (.int fr), .val (.int wt), .val (.int hd), .val (.int ld), .val (.int pp), .val (.int qq), .val (.ref b4), .val (.int zb), .val (.int lb), .val (.int tov), .val .null, .val (.int (own_hx zb)), .unset, .unset, .unset, .unset, .unset] [(.int lb)])) rfl (by rw [hml]; rfl) (argsL := [(.int lb)]) (rest := []) (lenOf pd_5 rfl) rfl rfl (W := 0) (by show 2 * 0 + _ ≤ _; exact Nat.le_of_eq rfl) (hb hby at_393) (by decide) (by decide) (by decide) (by decide) ?_
      intro T84 X84 e84
      refine own_go (T' := T84) (f' := (mkF m 529 #[.val (.int p0), .val (.int p1), .val (.int p2), .val (.int p3), .val (.int p4), .val (.int p5), .val (.int fr), .val (.int wt), .val (.int hd), .val (.int ld), .val (.int pp), .val (.int qq), .val (.ref b4), .val (.int zb), .val (.int lb), .val (.int tov), .val .null, .val (.int (own_hx zb)), .val (.int (own_hx lb)), .val (.int (1 : Int32)), .unset, .unset, .unset] [])) (fun t kt => ?_) ?_
      · show Steps p.tables e below (T84.setTop (mkF m 396 #[.val (.int p0), .val (.int p1), .val (.int p2), .val (.int p3), .val (.int p4), .val (.int p5), .val (.int fr), .val (.int wt), .val (.int hd), .val (.int ld), .val (.int pp), .val (.int qq), .val (.ref b4), .val (.int zb), .val (.int lb), .val (.int tov), .val .null, .val (.int (own_hx zb)), .unset, .unset, .unset, .unset, .unset] [(.int (own_hx lb))])) t
        refine XS.istore X84.here hx rfl (hb hby at_396) rfl (l' := #[.val (.int p0), .val (.int p1), .val (.int p2), .val (.int p3), .val (.int p4), .val (.int p5), .val (.int fr), .val (.int wt), .val (.int hd), .val (.int ld), .val (.int pp), .val (.int qq), .val (.ref b4), .val (.int zb), .val (.int lb), .val (.int tov), .val .null, .val (.int (own_hx zb)), .val (.int (own_hx lb)), .unset, .unset, .unset, .unset]) rfl ?_
        show Steps p.tables e below (T84.setTop (mkF m 398 #[.val (.int p0), .val (.int p1), .val (.int p2), .val (.int p3), .val (.int p4), .val (.int p5), .val (.int fr), .val (.int wt), .val (.int hd), .val (.int ld), .val (.int pp), .val (.int qq), .val (.ref b4), .val (.int zb), .val (.int lb), .val (.int tov), .val .null, .val (.int (own_hx zb)), .val (.int (own_hx lb)), .unset, .unset, .unset, .unset] [])) t
        refine XS.iload X84.here hx rfl (hb hby at_398) rfl ?_
        show Steps p.tables e below (T84.setTop (mkF m 400 #[.val (.int p0), .val (.int p1), .val (.int p2), .val (.int p3), .val (.int p4), .val (.int p5), .val (.int fr), .val (.int wt), .val (.int hd), .val (.int ld), .val (.int pp), .val (.int qq), .val (.ref b4), .val (.int zb), .val (.int lb), .val (.int tov), .val .null, .val (.int (own_hx zb)), .val (.int (own_hx lb)), .unset, .unset, .unset, .unset] [(.int tov)])) t
        refine XS.iload X84.here hx rfl (hb hby at_400) rfl ?_
        show Steps p.tables e below (T84.setTop (mkF m 402 #[.val (.int p0), .val (.int p1), .val (.int p2), .val (.int p3), .val (.int p4), .val (.int p5), .val (.int fr), .val (.int wt), .val (.int hd), .val (.int ld), .val (.int pp), .val (.int qq), .val (.ref b4), .val (.int zb), .val (.int lb), .val (.int tov), .val .null, .val (.int (own_hx zb)), .val (.int (own_hx lb)), .unset, .unset, .unset, .unset] [(.int fr), (.int tov)])) t
        refine XS.isub X84.here hx rfl (hb hby at_402) rfl ?_
        show Steps p.tables e below (T84.setTop (mkF m 403 #[.val (.int p0), .val (.int p1), .val (.int p2), .val (.int p3), .val (.int p4), .val (.int p5), .val (.int fr), .val (.int wt), .val (.int hd), .val (.int ld), .val (.int pp), .val (.int qq), .val (.ref b4), .val (.int zb), .val (.int lb), .val (.int tov), .val .null, .val (.int (own_hx zb)), .val (.int (own_hx lb)), .unset, .unset, .unset, .unset] [(.int (tov - fr))])) t
        refine XS.bipush X84.here hx rfl (hb hby at_403) ?_
        show Steps p.tables e below (T84.setTop (mkF m 405 #[.val (.int p0), .val (.int p1), .val (.int p2), .val (.int p3), .val (.int p4), .val (.int p5), .val (.int fr), .val (.int wt), .val (.int hd), .val (.int ld), .val (.int pp), .val (.int qq), .val (.ref b4), .val (.int zb), .val (.int lb), .val (.int tov), .val .null, .val (.int (own_hx zb)), .val (.int (own_hx lb)), .unset, .unset, .unset, .unset] [(.int (32 : Int32)), (.int (tov - fr))])) t
        refine XS.icmpYes X84.here hx rfl (pc0 := 405) (pc' := 418) rfl (hb hby at_405) rfl (feq h32).2 (by decide) (by decide) ?_
        show Steps p.tables e below (T84.setTop (mkF m 418 #[.val (.int p0), .val (.int p1), .val (.int p2), .val (.int p3), .val (.int p4), .val (.int p5), .val (.int fr), .val (.int wt), .val (.int hd), .val (.int ld), .val (.int pp), .val (.int qq), .val (.ref b4), .val (.int zb), .val (.int lb), .val (.int tov), .val .null, .val (.int (own_hx zb)), .val (.int (own_hx lb)), .unset, .unset, .unset, .unset] [])) t
        refine XS.aload X84.here hx rfl (hb hby at_418) rfl rfl ?_
        show Steps p.tables e below (T84.setTop (mkF m 420 #[.val (.int p0), .val (.int p1), .val (.int p2), .val (.int p3), .val (.int p4), .val (.int p5), .val (.int fr), .val (.int wt), .val (.int hd), .val (.int ld), .val (.int pp), .val (.int qq), .val (.ref b4), .val (.int zb), .val (.int lb), .val (.int tov), .val .null, .val (.int (own_hx zb)), .val (.int (own_hx lb)), .unset, .unset, .unset, .unset] [.null])) t
        refine XS.ifnonnullNo X84.here hx rfl (hb hby at_420) rfl ?_
        show Steps p.tables e below (T84.setTop (mkF m 423 #[.val (.int p0), .val (.int p1), .val (.int p2), .val (.int p3), .val (.int p4), .val (.int p5), .val (.int fr), .val (.int wt), .val (.int hd), .val (.int ld), .val (.int pp), .val (.int qq), .val (.ref b4), .val (.int zb), .val (.int lb), .val (.int tov), .val .null, .val (.int (own_hx zb)), .val (.int (own_hx lb)), .unset, .unset, .unset, .unset] [])) t
        refine XS.iconst X84.here hx rfl (hb hby at_423) ?_
        show Steps p.tables e below (T84.setTop (mkF m 424 #[.val (.int p0), .val (.int p1), .val (.int p2), .val (.int p3), .val (.int p4), .val (.int p5), .val (.int fr), .val (.int wt), .val (.int hd), .val (.int ld), .val (.int pp), .val (.int qq), .val (.ref b4), .val (.int zb), .val (.int lb), .val (.int tov), .val .null, .val (.int (own_hx zb)), .val (.int (own_hx lb)), .unset, .unset, .unset, .unset] [(.int (1 : Int32))])) t
        refine XS.goto X84.here hx rfl (pc0 := 424) (pc' := 428) rfl (hb hby at_424) (by decide) (by decide) ?_
        show Steps p.tables e below (T84.setTop (mkF m 428 #[.val (.int p0), .val (.int p1), .val (.int p2), .val (.int p3), .val (.int p4), .val (.int p5), .val (.int fr), .val (.int wt), .val (.int hd), .val (.int ld), .val (.int pp), .val (.int qq), .val (.ref b4), .val (.int zb), .val (.int lb), .val (.int tov), .val .null, .val (.int (own_hx zb)), .val (.int (own_hx lb)), .unset, .unset, .unset, .unset] [(.int (1 : Int32))])) t
        refine XS.istore X84.here hx rfl (hb hby at_428) rfl (l' := #[.val (.int p0), .val (.int p1), .val (.int p2), .val (.int p3), .val (.int p4), .val (.int p5), .val (.int fr), .val (.int wt), .val (.int hd), .val (.int ld), .val (.int pp), .val (.int qq), .val (.ref b4), .val (.int zb), .val (.int lb), .val (.int tov), .val .null, .val (.int (own_hx zb)), .val (.int (own_hx lb)), .val (.int (1 : Int32)), .unset, .unset, .unset]) rfl ?_
        show Steps p.tables e below (T84.setTop (mkF m 430 #[.val (.int p0), .val (.int p1), .val (.int p2), .val (.int p3), .val (.int p4), .val (.int p5), .val (.int fr), .val (.int wt), .val (.int hd), .val (.int ld), .val (.int pp), .val (.int qq), .val (.ref b4), .val (.int zb), .val (.int lb), .val (.int tov), .val .null, .val (.int (own_hx zb)), .val (.int (own_hx lb)), .val (.int (1 : Int32)), .unset, .unset, .unset] [])) t
        refine XS.goto X84.here hx rfl (pc0 := 430) (pc' := 529) rfl (hb hby at_430) (by decide) (by decide) ?_
        show Steps p.tables e below (T84.setTop (mkF m 529 #[.val (.int p0), .val (.int p1), .val (.int p2), .val (.int p3), .val (.int p4), .val (.int p5), .val (.int fr), .val (.int wt), .val (.int hd), .val (.int ld), .val (.int pp), .val (.int qq), .val (.ref b4), .val (.int zb), .val (.int lb), .val (.int tov), .val .null, .val (.int (own_hx zb)), .val (.int (own_hx lb)), .val (.int (1 : Int32)), .unset, .unset, .unset] [])) t
        exact kt
      exact J529 T84 _ hj46 (.val .null) (.unset) (.unset) (X84.more (by decide) (by decide)) Nj46 e84 kzj46 Zj46 Kj46 fj46_0 (One.val rfl) One.u One.u
  by_cases hc338_85 : (0 : Int32) < fr
  · refine own_go (T' := T45) (f' := (mkF m 353 #[.val (.int p0), .val (.int p1), .val (.int p2), .val (.int p3), .val (.int p4), .val (.int p5), .val (.int fr), .val (.int wt), .val (.int hd), .val (.int ld), .val (.int pp), .val (.int qq), .val (.ref b4), .val (.int zb), .val (.int lb), .unset, .unset, .unset, .unset, .unset, .unset, .unset, .unset] [(.int (((p4.toUInt32 >>> ((8 : Int32) &&& 31).toUInt32).toInt32).toInt8.toInt32)), (.int (fr - (1 : Int32))), (.ref b4)])) (fun t kt => ?_) ?_
    · show Steps p.tables e below (T45.setTop (mkF m 338 #[.val (.int p0), .val (.int p1), .val (.int p2), .val (.int p3), .val (.int p4), .val (.int p5), .val (.int fr), .val (.int wt), .val (.int hd), .val (.int ld), .val (.int pp), .val (.int qq), .val (.ref b4), .val (.int zb), .val (.int lb), .unset, .unset, .unset, .unset, .unset, .unset, .unset, .unset] [(.int fr)])) t
      refine XS.ifNo X45.here hx rfl (hb hby at_338) rfl ((if0 _ _).trans (tlt hc338_85).2.2.2) ?_
      show Steps p.tables e below (T45.setTop (mkF m 341 #[.val (.int p0), .val (.int p1), .val (.int p2), .val (.int p3), .val (.int p4), .val (.int p5), .val (.int fr), .val (.int wt), .val (.int hd), .val (.int ld), .val (.int pp), .val (.int qq), .val (.ref b4), .val (.int zb), .val (.int lb), .unset, .unset, .unset, .unset, .unset, .unset, .unset, .unset] [])) t
      refine XS.aload X45.here hx rfl (hb hby at_341) rfl rfl ?_
      show Steps p.tables e below (T45.setTop (mkF m 343 #[.val (.int p0), .val (.int p1), .val (.int p2), .val (.int p3), .val (.int p4), .val (.int p5), .val (.int fr), .val (.int wt), .val (.int hd), .val (.int ld), .val (.int pp), .val (.int qq), .val (.ref b4), .val (.int zb), .val (.int lb), .unset, .unset, .unset, .unset, .unset, .unset, .unset, .unset] [(.ref b4)])) t
      refine XS.iload X45.here hx rfl (hb hby at_343) rfl ?_
      show Steps p.tables e below (T45.setTop (mkF m 345 #[.val (.int p0), .val (.int p1), .val (.int p2), .val (.int p3), .val (.int p4), .val (.int p5), .val (.int fr), .val (.int wt), .val (.int hd), .val (.int ld), .val (.int pp), .val (.int qq), .val (.ref b4), .val (.int zb), .val (.int lb), .unset, .unset, .unset, .unset, .unset, .unset, .unset, .unset] [(.int fr), (.ref b4)])) t
      refine XS.iconst X45.here hx rfl (hb hby at_345) ?_
      show Steps p.tables e below (T45.setTop (mkF m 346 #[.val (.int p0), .val (.int p1), .val (.int p2), .val (.int p3), .val (.int p4), .val (.int p5), .val (.int fr), .val (.int wt), .val (.int hd), .val (.int ld), .val (.int pp), .val (.int qq), .val (.ref b4), .val (.int zb), .val (.int lb), .unset, .unset, .unset, .unset, .unset, .unset, .unset, .unset] [(.int (1 : Int32)), (.int fr), (.ref b4)])) t
      refine XS.isub X45.here hx rfl (hb hby at_346) rfl ?_
      show Steps p.tables e below (T45.setTop (mkF m 347 #[.val (.int p0), .val (.int p1), .val (.int p2), .val (.int p3), .val (.int p4), .val (.int p5), .val (.int fr), .val (.int wt), .val (.int hd), .val (.int ld), .val (.int pp), .val (.int qq), .val (.ref b4), .val (.int zb), .val (.int lb), .unset, .unset, .unset, .unset, .unset, .unset, .unset, .unset] [(.int (fr - (1 : Int32))), (.ref b4)])) t
      refine XS.iload X45.here hx rfl (hb hby at_347) rfl ?_
      show Steps p.tables e below (T45.setTop (mkF m 349 #[.val (.int p0), .val (.int p1), .val (.int p2), .val (.int p3), .val (.int p4), .val (.int p5), .val (.int fr), .val (.int wt), .val (.int hd), .val (.int ld), .val (.int pp), .val (.int qq), .val (.ref b4), .val (.int zb), .val (.int lb), .unset, .unset, .unset, .unset, .unset, .unset, .unset, .unset] [(.int p4), (.int (fr - (1 : Int32))), (.ref b4)])) t
      refine XS.bipush X45.here hx rfl (hb hby at_349) ?_
      show Steps p.tables e below (T45.setTop (mkF m 351 #[.val (.int p0), .val (.int p1), .val (.int p2), .val (.int p3), .val (.int p4), .val (.int p5), .val (.int fr), .val (.int wt), .val (.int hd), .val (.int ld), .val (.int pp), .val (.int qq), .val (.ref b4), .val (.int zb), .val (.int lb), .unset, .unset, .unset, .unset, .unset, .unset, .unset, .unset] [(.int (8 : Int32)), (.int p4), (.int (fr - (1 : Int32))), (.ref b4)])) t
      refine XS.iushr X45.here hx rfl (hb hby at_351) rfl ?_
      show Steps p.tables e below (T45.setTop (mkF m 352 #[.val (.int p0), .val (.int p1), .val (.int p2), .val (.int p3), .val (.int p4), .val (.int p5), .val (.int fr), .val (.int wt), .val (.int hd), .val (.int ld), .val (.int pp), .val (.int qq), .val (.ref b4), .val (.int zb), .val (.int lb), .unset, .unset, .unset, .unset, .unset, .unset, .unset, .unset] [(.int ((p4.toUInt32 >>> ((8 : Int32) &&& 31).toUInt32).toInt32)), (.int (fr - (1 : Int32))), (.ref b4)])) t
      refine XS.i2b X45.here hx rfl (hb hby at_352) rfl ?_
      show Steps p.tables e below (T45.setTop (mkF m 353 #[.val (.int p0), .val (.int p1), .val (.int p2), .val (.int p3), .val (.int p4), .val (.int p5), .val (.int fr), .val (.int wt), .val (.int hd), .val (.int ld), .val (.int pp), .val (.int qq), .val (.ref b4), .val (.int zb), .val (.int lb), .unset, .unset, .unset, .unset, .unset, .unset, .unset, .unset] [(.int (((p4.toUInt32 >>> ((8 : Int32) &&& 31).toUInt32).toInt32).toInt8.toInt32)), (.int (fr - (1 : Int32))), (.ref b4)])) t
      exact kt
    obtain ⟨T86, h86, X86, e86, W86, B86, st86⟩ := own_bastore X45 hx hZ e45 B45 (i := (k - 1)) (own_ixm hk hk3 hc338_85) (by omega) (g := (mkF m 353 #[.val (.int p0), .val (.int p1), .val (.int p2), .val (.int p3), .val (.int p4), .val (.int p5), .val (.int fr), .val (.int wt), .val (.int hd), .val (.int ld), .val (.int pp), .val (.int qq), .val (.ref b4), .val (.int zb), .val (.int lb), .unset, .unset, .unset, .unset, .unset, .unset, .unset, .unset] [(.int (((p4.toUInt32 >>> ((8 : Int32) &&& 31).toUInt32).toInt32).toInt8.toInt32)), (.int (fr - (1 : Int32))), (.ref b4)])) rfl rfl (hb hby at_353)
    refine own_go st86 ?_
    have N86 := Fr.snoc X86 N45 g_b4
    have Z86 : n0 ≤ h86.size := Nat.le_trans Z45 (Keep.of_wr W86).1
    have KK86 := KK45.wr W86 (Or.inr sz_b4)
    have kz86 := Nat.le_trans kz45 (Keep.of_wr W86).1
    obtain ⟨f4, hf4⟩ : ∃ z, z = (own_set f3 (k - 1) ((((p4.toUInt32 >>> ((8 : Int32) &&& 31).toUInt32).toInt32).toInt8.toInt32).toInt8.toInt32)) := ⟨_, rfl⟩
    rw [← hf4] at B86
    exact J354 T86 _ h86 f4 X86 N86 e86 kz86 Z86 KK86 B86 (by rw [hf4]; exact own_lp3 hL3 hkp15 (Or.inl (by have := own_posk hk hc338_85; omega)))
  · refine own_go (T' := T45) (f' := (mkF m 354 #[.val (.int p0), .val (.int p1), .val (.int p2), .val (.int p3), .val (.int p4), .val (.int p5), .val (.int fr), .val (.int wt), .val (.int hd), .val (.int ld), .val (.int pp), .val (.int qq), .val (.ref b4), .val (.int zb), .val (.int lb), .unset, .unset, .unset, .unset, .unset, .unset, .unset, .unset] [])) (fun t kt => ?_) ?_
    · show Steps p.tables e below (T45.setTop (mkF m 338 #[.val (.int p0), .val (.int p1), .val (.int p2), .val (.int p3), .val (.int p4), .val (.int p5), .val (.int fr), .val (.int wt), .val (.int hd), .val (.int ld), .val (.int pp), .val (.int qq), .val (.ref b4), .val (.int zb), .val (.int lb), .unset, .unset, .unset, .unset, .unset, .unset, .unset, .unset] [(.int fr)])) t
      refine XS.ifYes X45.here hx rfl (pc0 := 338) (pc' := 354) rfl (hb hby at_338) rfl ((if0 _ _).trans (flt hc338_85).2.2.2) (by decide) (by decide) ?_
      show Steps p.tables e below (T45.setTop (mkF m 354 #[.val (.int p0), .val (.int p1), .val (.int p2), .val (.int p3), .val (.int p4), .val (.int p5), .val (.int fr), .val (.int wt), .val (.int hd), .val (.int ld), .val (.int pp), .val (.int qq), .val (.ref b4), .val (.int zb), .val (.int lb), .unset, .unset, .unset, .unset, .unset, .unset, .unset, .unset] [])) t
      exact kt
    exact J354 T45 _ h45 f3 X45 N45 e45 kz45 Z45 KK45 B45 hL3
set_option maxRecDepth 65536 in
set_option maxHeartbeats 40000000 in
theorem comes_1 {Post : Tables → Env → Array Value → State → Outcome → State → Prop} (hpost : ∀ tb e args s v u, (limb_1_1.after args s (.returned v) u = true ∧ limb_1_2.after args s (.returned v) u = true ∧ True) → ReturnedEndW s (.returned v) u (Jvm.fieldLocs frame_1_writes args s ++ Jvm.arrayLocs frame_1_arrays args s ++ Jvm.staticLocs frame_1_statics s) 16 1216 → Post tb e args s (.returned v) u) :
    ArmFor flags0 classFile x code maxLocals ret World_1 tables_1 room_1 Calls_1 rest_1 Pre_1 Post := by
  intro l hfl _ _ p e ha hc hk s m args below hf hA hF happ hP
  obtain ⟨hcalls, hrest, hpre⟩ := hP
  obtain ⟨-, -, -, hnamed, -, -, -, hat⟩ := (Spec.applies_iff hf).mp happ
  obtain ⟨hg, hn⟩ := and_e (Cond.before_iff.mp (show (Jvm.Cond.and given_1 narrow_1).before args s = true from hpre))
  obtain ⟨k1, k2⟩ := and_e hg
  obtain ⟨k3, k4⟩ := and_e k2
  obtain ⟨k5, k6⟩ := and_e k4
  obtain ⟨k7, k8⟩ := and_e k6
  obtain ⟨k9, k10⟩ := and_e k8
  obtain ⟨k11, k12⟩ := and_e k10
  obtain ⟨w0, w1, w2, w3, w4, w5, rfl⟩ : ∃ w0 w1 w2 w3 w4 w5 : Value, args = #[w0, w1, w2, w3, w4, w5] := by
    have hs : args.size = 6 := by simpa [Cond.value, given_1] using k1
    obtain ⟨L⟩ := args
    match L, hs with
    | [w0, w1, w2, w3, w4, w5], _ => exact ⟨w0, w1, w2, w3, w4, w5, rfl⟩
  have hw := fun d (hd : d ∈ tables_1) => atoms_spec (ws := Jvm.Cond.code x code maxLocals ret :: tables_1) hat d (List.mem_cons_of_mem _ hd)
  obtain ⟨hsets, hown0⟩ := atoms_of _ (rest_1_c_eq ▸ (show rest_1_c.before _ s = true from hrest))
  obtain ⟨zc, ezc⟩ := is_v (Cond.before_iff.mp (hsets _ (List.mem_of_getElem? (i := 1) rfl)))
  have SC : Sta s s.heap "java/lang/String" "COMPACT_STRINGS" "Z" (.int zc) := Sta.start ezc (Or.inl (hsets _ (List.mem_of_getElem? (i := 0) rfl)))
  have nzc := not_v (Cond.before_iff.mp (hsets _ (List.mem_of_getElem? (i := 2) rfl)))
  have hzc : ¬ zc = (0 : Int32) := fun q => by subst q; simp only [Jvm.Cond.value, ezc] at nzc; simp [Jvm.Term.eval] at nzc
  obtain ⟨vb, evb, rvb⟩ := isR_v (Cond.before_iff.mp (hsets _ (List.mem_of_getElem? (i := 8) rfl)))
  have SI : Sta s s.heap "jdk/internal/util/Preconditions" "SIOOBE_FORMATTER" "Ljava/util/function/BiFunction;" vb := Sta.start evb (Or.inl (hsets _ (List.mem_of_getElem? (i := 7) rfl)))
  have hcat : vb.category = 1 := by cases vb <;> simp_all [Jvm.Value.isRef, Value.category]
  unfold narrow_1 at hn
  obtain ⟨zE_xa, hn⟩ := and_e hn
  obtain ⟨zF_xa, hn⟩ := and_e hn
  obtain ⟨zarr_, hn⟩ := and_e hn
  obtain ⟨zlen_, hn⟩ := and_e hn
  obtain ⟨zE_xe, hn⟩ := and_e hn
  obtain ⟨zF_xe, hn⟩ := and_e hn
  obtain ⟨zE_xd, hn⟩ := and_e hn
  obtain ⟨zF_xd, hn⟩ := and_e hn
  obtain ⟨zE_xf, hn⟩ := and_e hn
  obtain ⟨zF_xf, hn⟩ := and_e hn
  obtain ⟨zE_xb, hn⟩ := and_e hn
  obtain ⟨zF_xb, hn⟩ := and_e hn
  obtain ⟨zE_xc, hn⟩ := and_e hn
  obtain ⟨zF_xc, hn⟩ := and_e hn
  obtain ⟨zc1_, hn⟩ := and_e hn
  obtain ⟨zc2_, hn⟩ := and_e hn
  obtain ⟨zc3_, hn⟩ := and_e hn
  obtain ⟨zc4_, hn⟩ := and_e hn
  obtain ⟨zc5_, hn⟩ := and_e hn
  obtain ⟨zc6_, hn⟩ := and_e hn
  have zc7_ := hn
  obtain ⟨xa, ev_xa⟩ := exa_v zE_xa
  have S_xa := Sta.start ev_xa (Or.inr ⟨(hw _ (List.mem_of_getElem? (i := 6) rfl)), (hw _ (List.mem_of_getElem? (i := 7) rfl))⟩)
  have E_xa := Exa.start ev_xa zE_xa
  have F_xa : Fld s s.heap xa "com/example/longhold/longhold/bagit/ChecksumAlgorithm" "length" "I" (.int (16 : Int32)) := Fld.start ((fld_at ev_xa).symm.trans (own_eqv zF_xa rfl))
  obtain ⟨xb, ev_xb⟩ := exa_v zE_xb
  have S_xb := Sta.start ev_xb (Or.inr ⟨(hw _ (List.mem_of_getElem? (i := 6) rfl)), (hw _ (List.mem_of_getElem? (i := 63) rfl))⟩)
  have E_xb := Exa.start ev_xb zE_xb
  have F_xb : Fld s s.heap xb "com/example/longhold/longhold/bagit/ChecksumAlgorithm" "length" "I" (.int (64 : Int32)) := Fld.start ((fld_at ev_xb).symm.trans (own_eqv zF_xb rfl))
  obtain ⟨xc, ev_xc⟩ := exa_v zE_xc
  have S_xc := Sta.start ev_xc (Or.inr ⟨(hw _ (List.mem_of_getElem? (i := 6) rfl)), (hw _ (List.mem_of_getElem? (i := 65) rfl))⟩)
  have E_xc := Exa.start ev_xc zE_xc
  have F_xc : Fld s s.heap xc "com/example/longhold/longhold/bagit/ChecksumAlgorithm" "length" "I" (.int (48 : Int32)) := Fld.start ((fld_at ev_xc).symm.trans (own_eqv zF_xc rfl))
  obtain ⟨xd, ev_xd⟩ := exa_v zE_xd
  have S_xd := Sta.start ev_xd (Or.inr ⟨(hw _ (List.mem_of_getElem? (i := 6) rfl)), (hw _ (List.mem_of_getElem? (i := 26) rfl))⟩)
  have E_xd := Exa.start ev_xd zE_xd
  have F_xd : Fld s s.heap xd "com/example/longhold/longhold/bagit/ChecksumAlgorithm" "length" "I" (.int (32 : Int32)) := Fld.start ((fld_at ev_xd).symm.trans (own_eqv zF_xd rfl))
  obtain ⟨xe, ev_xe⟩ := exa_v zE_xe
  have S_xe := Sta.start ev_xe (Or.inr ⟨(hw _ (List.mem_of_getElem? (i := 6) rfl)), (hw _ (List.mem_of_getElem? (i := 24) rfl))⟩)
  have E_xe := Exa.start ev_xe zE_xe
  have F_xe : Fld s s.heap xe "com/example/longhold/longhold/bagit/ChecksumAlgorithm" "length" "I" (.int (28 : Int32)) := Fld.start ((fld_at ev_xe).symm.trans (own_eqv zF_xe rfl))
  obtain ⟨xf, ev_xf⟩ := exa_v zE_xf
  have S_xf := Sta.start ev_xf (Or.inr ⟨(hw _ (List.mem_of_getElem? (i := 6) rfl)), (hw _ (List.mem_of_getElem? (i := 61) rfl))⟩)
  have E_xf := Exa.start ev_xf zE_xf
  have F_xf : Fld s s.heap xf "com/example/longhold/longhold/bagit/ChecksumAlgorithm" "length" "I" (.int (20 : Int32)) := Fld.start ((fld_at ev_xf).symm.trans (own_eqv zF_xf rfl))
  obtain ⟨hxa, ev_hx⟩ := arr_v zarr_
  have SX := Sta.start ev_hx (Or.inr ⟨(hw _ (List.mem_of_getElem? (i := 6) rfl)), (hw _ (List.mem_of_getElem? (i := 19) rfl))⟩)
  have HX := own_hexA ev_hx zarr_ zlen_ zc1_ zc2_ zc3_ zc4_ zc5_ zc6_ zc7_
  have CH0 : CHv s own_EL s.vm s.heap := CHv.start (own_EW hw) hcalls.1 (hsets _ (List.mem_of_getElem? (i := 2) rfl)) (hw _ (List.mem_of_getElem? (i := 0) rfl)) (hw _ (List.mem_of_getElem? (i := 29) rfl))
  obtain ⟨i0, ei0⟩ := is_v k3
  obtain rfl : w0 = (.int i0) := Option.some.inj ei0
  obtain ⟨i1, ei1⟩ := is_v k5
  obtain rfl : w1 = (.int i1) := Option.some.inj ei1
  obtain ⟨i2, ei2⟩ := is_v k7
  obtain rfl : w2 = (.int i2) := Option.some.inj ei2
  obtain ⟨i3, ei3⟩ := is_v k9
  obtain rfl : w3 = (.int i3) := Option.some.inj ei3
  obtain ⟨i4, ei4⟩ := is_v k11
  obtain rfl : w4 = (.int i4) := Option.some.inj ei4
  obtain ⟨i5, ei5⟩ := is_v k12
  obtain rfl : w5 = (.int i5) := Option.some.inj ei5
  obtain ⟨n, o, h1, h2, h3, _, L, rfl, ⟨rfl, N⟩, hq⟩ := rm0 l s _ hw (ws := tables_1) i0 i1 i2 i3 i4 i5 vb zc hxa xa xb xc xd xe xf s.heap s.heap.size (Nat.le_refl _) SI hcat SC hzc SX HX S_xa E_xa F_xa S_xb E_xb F_xb S_xc E_xc F_xc S_xd E_xd F_xd S_xe E_xe F_xe S_xf E_xf F_xf p e ha hc hk s m _ below hf ((Spec.applies_iff_loose hf).mp happ).1 ⟨rfl, State.Warmed39.refl s, rfl, CH0⟩ trivial
  refine ⟨n, _, h1, h2, h3, hpost _ _ _ _ _ _ ⟨Cond.after_iff.mpr rfl, Cond.after_iff.mpr (eq_i res_at (Term.int_eval (1)) rfl), trivial⟩ ⟨hq.1, hq.2.1, hq.2.2.1, (hq.2.2.2.sift fun y hy => Or.inr (N y hy)).mono (by decide) (by decide)⟩⟩
theorem main_1_1 : Claimed_1_1 := comes_1 fun _ _ _ _ _ _ h hF => ⟨h.1, hF⟩
theorem main_1_2 : Claimed_1_2 := comes_1 fun _ _ _ _ _ _ h hF => ⟨h.2.1, hF⟩
end Jvm.Pilot.@@N@@
namespace Jvm.Pilot.@@N@@
open Jvm Jvm.ClassFile Sem Op Lib Jvm.Free Jvm.Stand Jvm.Pilot.@@N@@.Jvm.D
/-! MADE BY PROGRAM (witnessworld.py) out of the Statement's table words and the real class files: 18 classes; the members and pool entries that the words name. The judged class is class 1, her method 3. -/
namespace start1
open Jvm.ClassFile
def u (s : String) : CpInfo := .utf8 (stringToUtf16 s)
/-- a pool by its gaps: so many unusable entries, then the entry; so many at the end -/
def gap : Nat → List CpInfo → List CpInfo
  | 0, r => r
  | n + 1, r => .unusable :: gap n r
def poolList (es : List (Nat × CpInfo)) (last : Nat) : List CpInfo := es.foldr (fun e r => gap e.1 (e.2 :: r)) (gap last [])
def pool (es : List (Nat × CpInfo)) (last : Nat) : Array CpInfo := ⟨poolList es last⟩
def fileOf (pool : Array CpInfo) (this : Nat) (attrs : Array Attribute := #[]) (ms : Array MethodInfo := #[]) (fl : Nat := 33) (sup : Nat := 0) (ifs : Array Nat := #[]) (fds : Array FieldInfo := #[]) : ClassFile where
  minorVersion := 0
  majorVersion := 65
  constantPool := pool
  accessFlags := fl
  thisClass := this
  superClass := sup
  interfaces := ifs
  fields := fds
  methods := ms
  attributes := attrs
def plain (name : String) (sup : Option ClassId) : Class where
  name := name
  kind := .ordinary
  loader := none
  accessFlags := 33
  super := sup
  interfaces := #[]
  cf := none
  fields := #[]
  methods := #[]
  instanceTypes := #[]
  staticTypes := #[]
  resolved := #[]
  callSites := []
  init := .initialized
  statics := none
  mirror := none

def pool0 : Array CpInfo := pool [(5, u "<init>"), (0, u "()V"), (1, .class_ 10), (1, u "java/lang/Object")] 113

def k0m0 : Method := { name := "<init>", desc := "()V", sig := { parameters := [], returnType := none }, accessFlags := 1, code := none }
/-- java/lang/Object -/
def k0 : Class := { plain "java/lang/Object" none with
  accessFlags := 33
  interfaces := #[]
  cf := some (fileOf pool0 8 #[] #[{ accessFlags := 1, nameIndex := 5, descriptorIndex := 6, attributes := #[] }] 33 0 #[] #[])
  fields := #[]
  methods := #[k0m0]
  instanceTypes := #[]
  staticTypes := #[]
  resolved := Array.replicate 124 none
  statics := none }

def pool1 : Array CpInfo := pool [(2, .class_ 4), (1, u "java/lang/Object"), (0, u "<init>"), (0, u "()V"), (0, .string 8), (0, u "0123456789abcdefABCDEF"), (0, .integer 2147483647), (0, .methodref 11 12), (0, .class_ 13), (0, .nameAndType 14 15), (0, u "java/lang/String"), (0, u "charAt"), (0, u "(I)C"), (0, .methodref 17 18), (0, .class_ 19), (0, .nameAndType 20 21), (0, u "com/example/longhold/longhold/bagit/ChecksumAlgorithmParsePinLaw"), (0, u "draw"), (0, u "(IZ)B"), (0, .fieldref 23 24), (0, .class_ 25), (0, .nameAndType 26 27), (0, u "com/example/longhold/longhold/bagit/ChecksumAlgorithm"), (0, u "MD5"), (0, u "Lcom/example/longhold/longhold/bagit/ChecksumAlgorithm;"), (0, .methodref 23 29), (0, .nameAndType 30 31), (0, u "parse"), (0, u "([BII)[B"), (0, .methodref 17 33), (0, .nameAndType 34 35), (0, u "hexRef"), (0, u "(B)I"), (0, .fieldref 23 37), (0, .nameAndType 38 27), (0, u "SHA512"), (0, .fieldref 23 40), (0, .nameAndType 41 27), (0, u "SHA384"), (0, .fieldref 23 43), (0, .nameAndType 44 27), (0, u "SHA256"), (0, .fieldref 23 46), (0, .nameAndType 47 27), (0, u "SHA224"), (0, .fieldref 23 49), (0, .nameAndType 50 27), (0, u "SHA1"), (3, u "law"), (0, u "(IIIIII)Z")] 4

def k1m0 : Method := { name := "<init>", desc := "()V", sig := { parameters := [], returnType := none }, accessFlags := 1, code := none }
def k1c1 : Code := { maxStack := 2, maxLocals := 2, code := method_2_code, exceptionTable := #[], attributes := #[] }
def k1m1 : Method := { name := "hexRef", desc := "(B)I", sig := { parameters := [.byte], returnType := some .int }, accessFlags := 10, code := some k1c1 }
def k1c2 : Code := { maxStack := 3, maxLocals := 2, code := method_3_code, exceptionTable := #[], attributes := #[] }
def k1m2 : Method := { name := "draw", desc := "(IZ)B", sig := { parameters := [.int, .boolean], returnType := some .byte }, accessFlags := 10, code := some k1c2 }
def k1c3 : Code := { maxStack := 5, maxLocals := 23, code := code, exceptionTable := #[], attributes := #[] }
def k1m3 : Method := { name := "law", desc := "(IIIIII)Z", sig := { parameters := [.int, .int, .int, .int, .int, .int], returnType := some .boolean }, accessFlags := 9, code := some k1c3 }
/-- com/example/longhold/longhold/bagit/ChecksumAlgorithmParsePinLaw -/
def k1 : Class := { plain "com/example/longhold/longhold/bagit/ChecksumAlgorithmParsePinLaw" (some 0) with
  accessFlags := 49
  interfaces := #[]
  cf := some (fileOf pool1 17 #[] #[{ accessFlags := 1, nameIndex := 5, descriptorIndex := 6, attributes := #[] }, { accessFlags := 10, nameIndex := 34, descriptorIndex := 35, attributes := #[] }, { accessFlags := 10, nameIndex := 20, descriptorIndex := 21, attributes := #[] }, { accessFlags := 9, nameIndex := 54, descriptorIndex := 55, attributes := #[] }] 49 2 #[] #[])
  fields := #[]
  methods := #[k1m0, k1m1, k1m2, k1m3]
  instanceTypes := #[]
  staticTypes := #[]
  resolved := Array.replicate 60 none
  statics := none }

def pool2 : Array CpInfo := pool [(1, .class_ 2), (0, u "java/lang/constant/Constable"), (0, .class_ 4), (0, u "java/lang/Object")] 6

/-- java/lang/constant/Constable -/
def k2 : Class := { plain "java/lang/constant/Constable" (some 0) with
  accessFlags := 1537
  interfaces := #[]
  cf := some (fileOf pool2 1 #[] #[] 1537 3 #[] #[])
  fields := #[]
  methods := #[]
  instanceTypes := #[]
  staticTypes := #[]
  resolved := Array.replicate 11 none
  statics := none }

def pool3 : Array CpInfo := pool [(1, .class_ 2), (0, u "java/lang/Comparable"), (0, .class_ 4), (0, u "java/lang/Object")] 7

/-- java/lang/Comparable -/
def k3 : Class := { plain "java/lang/Comparable" (some 0) with
  accessFlags := 1537
  interfaces := #[]
  cf := some (fileOf pool3 1 #[] #[] 1537 3 #[] #[])
  fields := #[]
  methods := #[]
  instanceTypes := #[]
  staticTypes := #[]
  resolved := Array.replicate 12 none
  statics := none }

def pool4 : Array CpInfo := pool [(1, .class_ 2), (0, u "java/io/Serializable"), (0, .class_ 4), (0, u "java/lang/Object")] 2

/-- java/io/Serializable -/
def k4 : Class := { plain "java/io/Serializable" (some 0) with
  accessFlags := 1537
  interfaces := #[]
  cf := some (fileOf pool4 1 #[] #[] 1537 3 #[] #[])
  fields := #[]
  methods := #[]
  instanceTypes := #[]
  staticTypes := #[]
  resolved := Array.replicate 7 none
  statics := none }

def pool5 : Array CpInfo := pool [(2, .class_ 4), (1, u "java/lang/Enum"), (0, u "name"), (0, u "Ljava/lang/String;"), (2, u "ordinal"), (0, u "I"), (1, .class_ 14), (1, u "java/lang/Object"), (4, u "hash"), (86, .class_ 108), (1, u "java/lang/Enum$EnumDesc"), (2, .class_ 112), (0, u "java/lang/constant/Constable"), (0, .class_ 114), (0, u "java/lang/Comparable"), (0, .class_ 116), (0, u "java/io/Serializable")] 87

/-- java/lang/Enum -/
def k5 : Class := { plain "java/lang/Enum" (some 0) with
  accessFlags := 1057
  interfaces := #[2, 3, 4]
  cf := some (fileOf pool5 2 #[.nestMembers #[106]] #[] 1057 12 #[111, 113, 115] #[{ accessFlags := 18, nameIndex := 5, descriptorIndex := 6, attributes := #[] }, { accessFlags := 18, nameIndex := 9, descriptorIndex := 10, attributes := #[] }, { accessFlags := 2, nameIndex := 19, descriptorIndex := 10, attributes := #[] }])
  fields := #[{ name := "name", type := (.object "java/lang/String"), accessFlags := 18, slot := 0, constantValue := 0 }, { name := "ordinal", type := .int, accessFlags := 18, slot := 1, constantValue := 0 }, { name := "hash", type := .int, accessFlags := 2, slot := 2, constantValue := 0 }]
  methods := #[]
  instanceTypes := #[(.object "java/lang/String"), .int, .int]
  staticTypes := #[]
  resolved := Array.replicate 204 none
  statics := none }

def pool6 : Array CpInfo := pool [(1, .class_ 2), (0, u "com/example/longhold/longhold/bagit/ChecksumAlgorithm"), (2, u "SHA512"), (0, u "Lcom/example/longhold/longhold/bagit/ChecksumAlgorithm;"), (2, u "SHA384"), (2, u "SHA256"), (2, u "SHA224"), (2, u "SHA1"), (2, u "MD5"), (2, u "$VALUES"), (0, u "[Lcom/example/longhold/longhold/bagit/ChecksumAlgorithm;"), (6, .class_ 34), (1, u "java/lang/Enum"), (8, u "label"), (0, u "Ljava/lang/String;"), (2, u "digestName"), (0, .fieldref 1 49), (0, .nameAndType 50 51), (0, u "length"), (0, u "I"), (32, u "parse"), (0, u "([BII)[B"), (0, .methodref 1 87), (0, .nameAndType 88 89), (0, u "hexDigit"), (0, u "(B)I"), (0, .fieldref 1 91), (0, .nameAndType 92 93), (0, u "HEX_DIGITS"), (0, u "[B")] 103

def k6c0 : Code := { maxStack := 4, maxLocals := 9, code := prog_13_method_8_code, exceptionTable := #[], attributes := #[] }
def k6m0 : Method := { name := "parse", desc := "([BII)[B", sig := { parameters := [(.array .byte), .int, .int], returnType := some (.array .byte) }, accessFlags := 0, code := some k6c0 }
def k6c1 : Code := { maxStack := 2, maxLocals := 1, code := prog_13_method_9_code, exceptionTable := #[], attributes := #[] }
def k6m1 : Method := { name := "hexDigit", desc := "(B)I", sig := { parameters := [.byte], returnType := some .int }, accessFlags := 10, code := some k6c1 }
/-- com/example/longhold/longhold/bagit/ChecksumAlgorithm -/
def k6 : Class := { plain "com/example/longhold/longhold/bagit/ChecksumAlgorithm" (some 5) with
  accessFlags := 16433
  interfaces := #[]
  cf := some (fileOf pool6 1 #[] #[{ accessFlags := 0, nameIndex := 84, descriptorIndex := 85, attributes := #[] }, { accessFlags := 10, nameIndex := 88, descriptorIndex := 89, attributes := #[] }] 16433 32 #[] #[{ accessFlags := 16409, nameIndex := 5, descriptorIndex := 6, attributes := #[] }, { accessFlags := 16409, nameIndex := 9, descriptorIndex := 6, attributes := #[] }, { accessFlags := 16409, nameIndex := 12, descriptorIndex := 6, attributes := #[] }, { accessFlags := 16409, nameIndex := 15, descriptorIndex := 6, attributes := #[] }, { accessFlags := 16409, nameIndex := 18, descriptorIndex := 6, attributes := #[] }, { accessFlags := 16409, nameIndex := 21, descriptorIndex := 6, attributes := #[] }, { accessFlags := 26, nameIndex := 92, descriptorIndex := 93, attributes := #[] }, { accessFlags := 18, nameIndex := 43, descriptorIndex := 44, attributes := #[] }, { accessFlags := 18, nameIndex := 47, descriptorIndex := 44, attributes := #[] }, { accessFlags := 18, nameIndex := 50, descriptorIndex := 51, attributes := #[] }, { accessFlags := 4122, nameIndex := 24, descriptorIndex := 25, attributes := #[] }])
  fields := #[{ name := "SHA512", type := (.object "com/example/longhold/longhold/bagit/ChecksumAlgorithm"), accessFlags := 16409, slot := 0, constantValue := 0 }, { name := "SHA384", type := (.object "com/example/longhold/longhold/bagit/ChecksumAlgorithm"), accessFlags := 16409, slot := 1, constantValue := 0 }, { name := "SHA256", type := (.object "com/example/longhold/longhold/bagit/ChecksumAlgorithm"), accessFlags := 16409, slot := 2, constantValue := 0 }, { name := "SHA224", type := (.object "com/example/longhold/longhold/bagit/ChecksumAlgorithm"), accessFlags := 16409, slot := 3, constantValue := 0 }, { name := "SHA1", type := (.object "com/example/longhold/longhold/bagit/ChecksumAlgorithm"), accessFlags := 16409, slot := 4, constantValue := 0 }, { name := "MD5", type := (.object "com/example/longhold/longhold/bagit/ChecksumAlgorithm"), accessFlags := 16409, slot := 5, constantValue := 0 }, { name := "HEX_DIGITS", type := (.array .byte), accessFlags := 26, slot := 6, constantValue := 0 }, { name := "label", type := (.object "java/lang/String"), accessFlags := 18, slot := 3, constantValue := 0 }, { name := "digestName", type := (.object "java/lang/String"), accessFlags := 18, slot := 4, constantValue := 0 }, { name := "length", type := .int, accessFlags := 18, slot := 5, constantValue := 0 }, { name := "$VALUES", type := (.array (.object "com/example/longhold/longhold/bagit/ChecksumAlgorithm")), accessFlags := 4122, slot := 7, constantValue := 0 }]
  methods := #[k6m0, k6m1]
  instanceTypes := #[(.object "java/lang/String"), .int, .int, (.object "java/lang/String"), (.object "java/lang/String"), .int]
  staticTypes := #[(.object "com/example/longhold/longhold/bagit/ChecksumAlgorithm"), (.object "com/example/longhold/longhold/bagit/ChecksumAlgorithm"), (.object "com/example/longhold/longhold/bagit/ChecksumAlgorithm"), (.object "com/example/longhold/longhold/bagit/ChecksumAlgorithm"), (.object "com/example/longhold/longhold/bagit/ChecksumAlgorithm"), (.object "com/example/longhold/longhold/bagit/ChecksumAlgorithm"), (.array .byte), (.array (.object "com/example/longhold/longhold/bagit/ChecksumAlgorithm"))]
  resolved := Array.replicate 197 none
  statics := some 2 }

def pool7 : Array CpInfo := pool [(2, .class_ 4), (1, u "java/lang/CharSequence"), (42, .class_ 48), (0, u "java/lang/CharSequence$1CodePointIterator"), (10, .class_ 60), (0, u "java/lang/CharSequence$1CharIterator"), (5, .class_ 67), (0, u "java/lang/Object")] 63

/-- java/lang/CharSequence -/
def k7 : Class := { plain "java/lang/CharSequence" (some 0) with
  accessFlags := 1537
  interfaces := #[]
  cf := some (fileOf pool7 2 #[.nestMembers #[47, 59]] #[] 1537 66 #[] #[])
  fields := #[]
  methods := #[]
  instanceTypes := #[]
  staticTypes := #[]
  resolved := Array.replicate 131 none
  statics := none }

def pool8 : Array CpInfo := pool [(1, .class_ 2), (0, u "java/lang/constant/ConstantDesc"), (0, .class_ 4), (0, u "java/lang/Object")] 32

/-- java/lang/constant/ConstantDesc -/
def k8 : Class := { plain "java/lang/constant/ConstantDesc" (some 0) with
  accessFlags := 1537
  interfaces := #[]
  cf := some (fileOf pool8 1 #[] #[] 1537 3 #[] #[])
  fields := #[]
  methods := #[]
  instanceTypes := #[]
  staticTypes := #[]
  resolved := Array.replicate 37 none
  statics := none }

def pool9 : Array CpInfo := pool [(2, .class_ 4), (1, u "java/lang/Object"), (0, u "<init>"), (0, u "()V"), (2, .fieldref 10 11), (0, .class_ 12), (0, .nameAndType 13 14), (0, u "java/lang/String"), (0, u "value"), (0, u "[B"), (0, .fieldref 10 16), (0, .nameAndType 17 18), (0, u "coder"), (0, u "B"), (2, u "hash"), (0, u "I"), (2, u "hashIsZero"), (0, u "Z"), (11, .fieldref 10 39), (0, .nameAndType 40 26), (0, u "COMPACT_STRINGS"), (66, .class_ 109), (1, u "java/lang/StringLatin1"), (32, u "()Z"), (220, u "([BI)C"), (27, u "(II)V"), (35, u "(I)C"), (64, .methodref 10 493), (0, .nameAndType 494 142), (0, u "isLatin1"), (0, .methodref 107 496), (0, .nameAndType 497 363), (0, u "charAt"), (3, u "checkIndex"), (73, .class_ 576), (0, u "java/lang/CharSequence"), (22, u "CASE_INSENSITIVE_ORDER"), (0, u "Ljava/util/Comparator;"), (452, .fieldref 1054 1055), (0, .class_ 1056), (0, .nameAndType 1057 1058), (0, u "jdk/internal/util/Preconditions"), (0, u "SIOOBE_FORMATTER"), (0, u "Ljava/util/function/BiFunction;"), (0, .methodref 1054 1060), (0, .nameAndType 501 1061), (0, u "(IILjava/util/function/BiFunction;)I"), (39, u "serialPersistentFields"), (0, u "[Ljava/io/ObjectStreamField;"), (0, .class_ 1104), (0, u "java/lang/String$CaseInsensitiveComparator"), (1, .class_ 1107), (0, u "java/io/Serializable"), (0, .class_ 1109), (0, u "java/lang/Comparable"), (0, .class_ 1111), (0, u "java/lang/constant/Constable"), (0, .class_ 1113), (0, u "java/lang/constant/ConstantDesc"), (2, u "serialVersionUID"), (0, u "J"), (3, u "REPL"), (0, u "C"), (2, u "LATIN1"), (1, u "UTF16")] 323

def k9m0 : Method := { name := "<init>", desc := "()V", sig := { parameters := [], returnType := none }, accessFlags := 1, code := none }
def k9c1 : Code := { maxStack := 2, maxLocals := 2, code := jdk_42_method_56_code, exceptionTable := #[], attributes := #[] }
def k9m1 : Method := { name := "charAt", desc := "(I)C", sig := { parameters := [.int], returnType := some .char }, accessFlags := 1, code := some k9c1 }
def k9c2 : Code := { maxStack := 1, maxLocals := 1, code := jdk_42_method_154_code, exceptionTable := #[], attributes := #[] }
def k9m2 : Method := { name := "isLatin1", desc := "()Z", sig := { parameters := [], returnType := some .boolean }, accessFlags := 0, code := some k9c2 }
def k9c3 : Code := { maxStack := 3, maxLocals := 2, code := jdk_42_method_155_code, exceptionTable := #[], attributes := #[] }
def k9m3 : Method := { name := "checkIndex", desc := "(II)V", sig := { parameters := [.int, .int], returnType := none }, accessFlags := 8, code := some k9c3 }
/-- java/lang/String -/
def k9 : Class := { plain "java/lang/String" (some 0) with
  accessFlags := 49
  interfaces := #[4, 3, 7, 2, 8]
  cf := some (fileOf pool9 10 #[.nestMembers #[1103]] #[{ accessFlags := 1, nameIndex := 5, descriptorIndex := 6, attributes := #[] }, { accessFlags := 1, nameIndex := 497, descriptorIndex := 427, attributes := #[] }, { accessFlags := 0, nameIndex := 494, descriptorIndex := 142, attributes := #[] }, { accessFlags := 8, nameIndex := 501, descriptorIndex := 391, attributes := #[] }] 49 2 #[1106, 1108, 575, 1110, 1112] #[{ accessFlags := 18, nameIndex := 13, descriptorIndex := 14, attributes := #[] }, { accessFlags := 18, nameIndex := 17, descriptorIndex := 18, attributes := #[] }, { accessFlags := 2, nameIndex := 21, descriptorIndex := 22, attributes := #[] }, { accessFlags := 2, nameIndex := 25, descriptorIndex := 26, attributes := #[] }, { accessFlags := 26, nameIndex := 1116, descriptorIndex := 1117, attributes := #[] }, { accessFlags := 24, nameIndex := 40, descriptorIndex := 26, attributes := #[] }, { accessFlags := 26, nameIndex := 1101, descriptorIndex := 1102, attributes := #[] }, { accessFlags := 26, nameIndex := 1121, descriptorIndex := 1122, attributes := #[] }, { accessFlags := 25, nameIndex := 599, descriptorIndex := 600, attributes := #[] }, { accessFlags := 24, nameIndex := 1125, descriptorIndex := 18, attributes := #[] }, { accessFlags := 24, nameIndex := 1127, descriptorIndex := 18, attributes := #[] }])
  fields := #[{ name := "value", type := (.array .byte), accessFlags := 18, slot := 0, constantValue := 0 }, { name := "coder", type := .byte, accessFlags := 18, slot := 1, constantValue := 0 }, { name := "hash", type := .int, accessFlags := 2, slot := 2, constantValue := 0 }, { name := "hashIsZero", type := .boolean, accessFlags := 2, slot := 3, constantValue := 0 }, { name := "serialVersionUID", type := .long, accessFlags := 26, slot := 0, constantValue := 0 }, { name := "COMPACT_STRINGS", type := .boolean, accessFlags := 24, slot := 1, constantValue := 0 }, { name := "serialPersistentFields", type := (.array (.object "java/io/ObjectStreamField")), accessFlags := 26, slot := 2, constantValue := 0 }, { name := "REPL", type := .char, accessFlags := 26, slot := 3, constantValue := 0 }, { name := "CASE_INSENSITIVE_ORDER", type := (.object "java/util/Comparator"), accessFlags := 25, slot := 4, constantValue := 0 }, { name := "LATIN1", type := .byte, accessFlags := 24, slot := 5, constantValue := 0 }, { name := "UTF16", type := .byte, accessFlags := 24, slot := 6, constantValue := 0 }]
  methods := #[k9m0, k9m1, k9m2, k9m3]
  instanceTypes := #[(.array .byte), .byte, .int, .boolean]
  staticTypes := #[.long, .boolean, (.array (.object "java/io/ObjectStreamField")), .char, (.object "java/util/Comparator"), .byte, .byte]
  resolved := Array.replicate 1451 none
  statics := some 0 }

def pool10 : Array CpInfo := pool [(1, .class_ 2), (0, u "java/lang/String"), (1, .class_ 6), (1, u "java/lang/Object"), (0, u "<init>"), (0, u "()V"), (0, .methodref 1 10), (0, .nameAndType 11 12), (0, u "checkIndex"), (0, u "(II)V"), (1, .class_ 16), (1, u "java/lang/StringLatin1"), (36, u "([BI)C"), (67, u "$assertionsDisabled"), (0, u "Z"), (98, .class_ 223), (1, u "java/lang/StringLatin1$LinesSpliterator"), (28, u "charAt"), (137, .class_ 391), (0, u "java/lang/StringLatin1$CharsSpliterator")] 3

def k10m0 : Method := { name := "<init>", desc := "()V", sig := { parameters := [], returnType := none }, accessFlags := 0, code := none }
def k10c1 : Code := { maxStack := 2, maxLocals := 2, code := jdk_43_method_2_code, exceptionTable := #[], attributes := #[] }
def k10m1 : Method := { name := "charAt", desc := "([BI)C", sig := { parameters := [(.array .byte), .int], returnType := some .char }, accessFlags := 9, code := some k10c1 }
/-- java/lang/StringLatin1 -/
def k10 : Class := { plain "java/lang/StringLatin1" (some 0) with
  accessFlags := 48
  interfaces := #[]
  cf := some (fileOf pool10 14 #[.nestMembers #[390, 221]] #[{ accessFlags := 0, nameIndex := 7, descriptorIndex := 8, attributes := #[] }, { accessFlags := 9, nameIndex := 252, descriptorIndex := 53, attributes := #[] }] 48 4 #[] #[{ accessFlags := 4120, nameIndex := 121, descriptorIndex := 122, attributes := #[] }])
  fields := #[{ name := "$assertionsDisabled", type := .boolean, accessFlags := 4120, slot := 0, constantValue := 0 }]
  methods := #[k10m0, k10m1]
  instanceTypes := #[]
  staticTypes := #[.boolean]
  resolved := Array.replicate 395 none
  statics := none }

def pool11 : Array CpInfo := pool [(2, .class_ 4), (1, u "java/lang/Object"), (0, u "<init>"), (0, u "()V"), (17, .class_ 26), (1, u "jdk/internal/util/Preconditions"), (6, u "checkIndex"), (21, .class_ 56), (0, u "jdk/internal/util/Preconditions$4"), (57, .class_ 115), (0, u "jdk/internal/util/Preconditions$1"), (7, u "SIOOBE_FORMATTER"), (0, u "Ljava/util/function/BiFunction;"), (0, .class_ 126), (0, u "jdk/internal/util/Preconditions$2"), (3, u "AIOOBE_FORMATTER"), (0, .class_ 132), (0, u "jdk/internal/util/Preconditions$3"), (3, u "IOOBE_FORMATTER"), (41, u "(IILjava/util/function/BiFunction;)I")] 15

def k11m0 : Method := { name := "<init>", desc := "()V", sig := { parameters := [], returnType := none }, accessFlags := 1, code := none }
def k11c1 : Code := { maxStack := 3, maxLocals := 3, code := jdk_41_method_11_code, exceptionTable := #[], attributes := #[] }
def k11m1 : Method := { name := "checkIndex", desc := "(IILjava/util/function/BiFunction;)I", sig := { parameters := [.int, .int, (.object "java/util/function/BiFunction")], returnType := some .int }, accessFlags := 9, code := some k11c1 }
/-- jdk/internal/util/Preconditions -/
def k11 : Class := { plain "jdk/internal/util/Preconditions" (some 0) with
  accessFlags := 33
  interfaces := #[]
  cf := some (fileOf pool11 24 #[.nestMembers #[55, 131, 125, 114]] #[{ accessFlags := 1, nameIndex := 5, descriptorIndex := 6, attributes := #[] }, { accessFlags := 9, nameIndex := 33, descriptorIndex := 178, attributes := #[] }] 33 2 #[] #[{ accessFlags := 25, nameIndex := 123, descriptorIndex := 124, attributes := #[] }, { accessFlags := 25, nameIndex := 130, descriptorIndex := 124, attributes := #[] }, { accessFlags := 25, nameIndex := 136, descriptorIndex := 124, attributes := #[] }])
  fields := #[{ name := "SIOOBE_FORMATTER", type := (.object "java/util/function/BiFunction"), accessFlags := 25, slot := 0, constantValue := 0 }, { name := "AIOOBE_FORMATTER", type := (.object "java/util/function/BiFunction"), accessFlags := 25, slot := 1, constantValue := 0 }, { name := "IOOBE_FORMATTER", type := (.object "java/util/function/BiFunction"), accessFlags := 25, slot := 2, constantValue := 0 }]
  methods := #[k11m0, k11m1]
  instanceTypes := #[]
  staticTypes := #[(.object "java/util/function/BiFunction"), (.object "java/util/function/BiFunction"), (.object "java/util/function/BiFunction")]
  resolved := Array.replicate 194 none
  statics := some 1 }

def pool12 : Array CpInfo := pool [(9, u "<init>"), (6, .class_ 18), (1, u "java/lang/Object"), (0, u "()V"), (1, .class_ 23), (1, u "jdk/internal/util/ArraysSupport"), (0, u "LOG2_ARRAY_LONG_INDEX_SCALE"), (0, u "I"), (2, u "U"), (0, u "Ljdk/internal/misc/Unsafe;"), (8, u "BIG_ENDIAN"), (0, u "Z"), (8, u "LOG2_BYTE_BIT_SIZE"), (4, u "LOG2_ARRAY_INT_INDEX_SCALE"), (54, u "JLA"), (0, u "Ljdk/internal/access/JavaLangAccess;"), (11, u "LOG2_ARRAY_BOOLEAN_INDEX_SCALE"), (9, u "LOG2_ARRAY_BYTE_INDEX_SCALE"), (5, u "LOG2_ARRAY_CHAR_INDEX_SCALE"), (5, u "LOG2_ARRAY_SHORT_INDEX_SCALE"), (18, u "LOG2_ARRAY_FLOAT_INDEX_SCALE"), (24, u "LOG2_ARRAY_DOUBLE_INDEX_SCALE"), (89, u "T_BOOLEAN"), (2, u "T_CHAR"), (1, u "T_FLOAT"), (1, u "T_DOUBLE"), (1, u "T_BYTE"), (1, u "T_SHORT"), (1, u "T_INT"), (1, u "T_LONG"), (1, u "SOFT_MAX_ARRAY_LENGTH")] 83

def k12m0 : Method := { name := "<init>", desc := "()V", sig := { parameters := [], returnType := none }, accessFlags := 2, code := none }
/-- jdk/internal/util/ArraysSupport -/
def k12 : Class := { plain "jdk/internal/util/ArraysSupport" (some 0) with
  accessFlags := 33
  interfaces := #[]
  cf := some (fileOf pool12 21 #[] #[{ accessFlags := 2, nameIndex := 9, descriptorIndex := 19, attributes := #[] }] 33 16 #[] #[{ accessFlags := 24, nameIndex := 28, descriptorIndex := 29, attributes := #[] }, { accessFlags := 26, nameIndex := 38, descriptorIndex := 39, attributes := #[] }, { accessFlags := 25, nameIndex := 121, descriptorIndex := 25, attributes := #[] }, { accessFlags := 25, nameIndex := 131, descriptorIndex := 25, attributes := #[] }, { accessFlags := 25, nameIndex := 137, descriptorIndex := 25, attributes := #[] }, { accessFlags := 25, nameIndex := 143, descriptorIndex := 25, attributes := #[] }, { accessFlags := 25, nameIndex := 53, descriptorIndex := 25, attributes := #[] }, { accessFlags := 25, nameIndex := 24, descriptorIndex := 25, attributes := #[] }, { accessFlags := 25, nameIndex := 162, descriptorIndex := 25, attributes := #[] }, { accessFlags := 25, nameIndex := 187, descriptorIndex := 25, attributes := #[] }, { accessFlags := 26, nameIndex := 48, descriptorIndex := 25, attributes := #[] }, { accessFlags := 25, nameIndex := 277, descriptorIndex := 25, attributes := #[] }, { accessFlags := 25, nameIndex := 280, descriptorIndex := 25, attributes := #[] }, { accessFlags := 25, nameIndex := 282, descriptorIndex := 25, attributes := #[] }, { accessFlags := 25, nameIndex := 284, descriptorIndex := 25, attributes := #[] }, { accessFlags := 25, nameIndex := 286, descriptorIndex := 25, attributes := #[] }, { accessFlags := 25, nameIndex := 288, descriptorIndex := 25, attributes := #[] }, { accessFlags := 25, nameIndex := 290, descriptorIndex := 25, attributes := #[] }, { accessFlags := 25, nameIndex := 292, descriptorIndex := 25, attributes := #[] }, { accessFlags := 26, nameIndex := 108, descriptorIndex := 109, attributes := #[] }, { accessFlags := 25, nameIndex := 294, descriptorIndex := 25, attributes := #[] }])
  fields := #[{ name := "U", type := (.object "jdk/internal/misc/Unsafe"), accessFlags := 24, slot := 0, constantValue := 0 }, { name := "BIG_ENDIAN", type := .boolean, accessFlags := 26, slot := 1, constantValue := 0 }, { name := "LOG2_ARRAY_BOOLEAN_INDEX_SCALE", type := .int, accessFlags := 25, slot := 2, constantValue := 0 }, { name := "LOG2_ARRAY_BYTE_INDEX_SCALE", type := .int, accessFlags := 25, slot := 3, constantValue := 0 }, { name := "LOG2_ARRAY_CHAR_INDEX_SCALE", type := .int, accessFlags := 25, slot := 4, constantValue := 0 }, { name := "LOG2_ARRAY_SHORT_INDEX_SCALE", type := .int, accessFlags := 25, slot := 5, constantValue := 0 }, { name := "LOG2_ARRAY_INT_INDEX_SCALE", type := .int, accessFlags := 25, slot := 6, constantValue := 0 }, { name := "LOG2_ARRAY_LONG_INDEX_SCALE", type := .int, accessFlags := 25, slot := 7, constantValue := 0 }, { name := "LOG2_ARRAY_FLOAT_INDEX_SCALE", type := .int, accessFlags := 25, slot := 8, constantValue := 0 }, { name := "LOG2_ARRAY_DOUBLE_INDEX_SCALE", type := .int, accessFlags := 25, slot := 9, constantValue := 0 }, { name := "LOG2_BYTE_BIT_SIZE", type := .int, accessFlags := 26, slot := 10, constantValue := 0 }, { name := "T_BOOLEAN", type := .int, accessFlags := 25, slot := 11, constantValue := 0 }, { name := "T_CHAR", type := .int, accessFlags := 25, slot := 12, constantValue := 0 }, { name := "T_FLOAT", type := .int, accessFlags := 25, slot := 13, constantValue := 0 }, { name := "T_DOUBLE", type := .int, accessFlags := 25, slot := 14, constantValue := 0 }, { name := "T_BYTE", type := .int, accessFlags := 25, slot := 15, constantValue := 0 }, { name := "T_SHORT", type := .int, accessFlags := 25, slot := 16, constantValue := 0 }, { name := "T_INT", type := .int, accessFlags := 25, slot := 17, constantValue := 0 }, { name := "T_LONG", type := .int, accessFlags := 25, slot := 18, constantValue := 0 }, { name := "JLA", type := (.object "jdk/internal/access/JavaLangAccess"), accessFlags := 26, slot := 19, constantValue := 0 }, { name := "SOFT_MAX_ARRAY_LENGTH", type := .int, accessFlags := 25, slot := 20, constantValue := 0 }]
  methods := #[k12m0]
  instanceTypes := #[]
  staticTypes := #[(.object "jdk/internal/misc/Unsafe"), .boolean, .int, .int, .int, .int, .int, .int, .int, .int, .int, .int, .int, .int, .int, .int, .int, .int, .int, (.object "jdk/internal/access/JavaLangAccess"), .int]
  resolved := Array.replicate 378 none
  statics := none }

def pool13 : Array CpInfo := pool [(1, u "java/lang/Cloneable"), (0, .class_ 1), (0, u "java/lang/Object"), (0, .class_ 3)] 3

/-- java/lang/Cloneable -/
def k13 : Class := { plain "java/lang/Cloneable" (some 0) with
  accessFlags := 1537
  interfaces := #[]
  cf := some (fileOf pool13 2 #[] #[] 1537 4 #[] #[])
  fields := #[]
  methods := #[]
  instanceTypes := #[]
  staticTypes := #[]
  resolved := Array.replicate 8 none
  statics := none }

/-- the primitive byte -/
def k14 : Class := { plain "byte" none with kind := .primitive 'B', accessFlags := 0x411 }
/-- [B -/
def k15 : Class := { plain "[B" (some 0) with kind := .array 14 .byte, interfaces := #[13, 4], accessFlags := 1041 }

/-- the primitive int -/
def k16 : Class := { plain "int" none with kind := .primitive 'I', accessFlags := 0x411 }
/-- [I -/
def k17 : Class := { plain "[I" (some 0) with kind := .array 16 .int, interfaces := #[13, 4], accessFlags := 1041 }

def heap : Heap := #[{ cls := 9, slots := #[.long 0, .int 1, .null, .int 0, .null, .int 0, .int 0], vm := .statics 9 },
  { cls := 11, slots := #[.null, .null, .null], vm := .statics 11 },
  { cls := 6, slots := #[.ref 3, .ref 4, .ref 5, .ref 6, .ref 7, .ref 8, .ref 9, .null], vm := .statics 6 },
  { cls := 6, slots := #[.null, .int 0, .int 0, .null, .null, .int 64] },
  { cls := 6, slots := #[.null, .int 0, .int 0, .null, .null, .int 48] },
  { cls := 6, slots := #[.null, .int 0, .int 0, .null, .null, .int 32] },
  { cls := 6, slots := #[.null, .int 0, .int 0, .null, .null, .int 28] },
  { cls := 6, slots := #[.null, .int 0, .int 0, .null, .null, .int 20] },
  { cls := 6, slots := #[.null, .int 0, .int 0, .null, .null, .int 16] },
  { cls := 15, slots := #[.int (-1), .int (-1), .int (-1), .int (-1), .int (-1), .int (-1), .int (-1), .int (-1), .int (-1), .int (-1), .int (-1), .int (-1), .int (-1), .int (-1), .int (-1), .int (-1), .int (-1), .int (-1), .int (-1), .int (-1), .int (-1), .int (-1), .int (-1), .int (-1), .int (-1), .int (-1), .int (-1), .int (-1), .int (-1), .int (-1), .int (-1), .int (-1), .int (-1), .int (-1), .int (-1), .int (-1), .int (-1), .int (-1), .int (-1), .int (-1), .int (-1), .int (-1), .int (-1), .int (-1), .int (-1), .int (-1), .int (-1), .int (-1), .int 0, .int 1, .int 2, .int 3, .int 4, .int 5, .int 6, .int 7, .int 8, .int 9, .int (-1), .int (-1), .int (-1), .int (-1), .int (-1), .int (-1), .int (-1), .int 10, .int 11, .int 12, .int 13, .int 14, .int 15, .int (-1), .int (-1), .int (-1), .int (-1), .int (-1), .int (-1), .int (-1), .int (-1), .int (-1), .int (-1), .int (-1), .int (-1), .int (-1), .int (-1), .int (-1), .int (-1), .int (-1), .int (-1), .int (-1), .int (-1), .int (-1), .int (-1), .int (-1), .int (-1), .int (-1), .int (-1), .int 10, .int 11, .int 12, .int 13, .int 14, .int 15, .int (-1), .int (-1), .int (-1), .int (-1), .int (-1), .int (-1), .int (-1), .int (-1), .int (-1), .int (-1), .int (-1), .int (-1), .int (-1), .int (-1), .int (-1), .int (-1), .int (-1), .int (-1), .int (-1), .int (-1), .int (-1), .int (-1), .int (-1), .int (-1), .int (-1)] }]
def classes : Array Class := #[k0, k1, k2, k3, k4, k5, k6, k7, k8, k9, k10, k11, k12, k13, k14, k15, k16, k17]
def interned : List (Array UInt16 × Addr) := []
def slotsUsed : Nat := 182
def theMethod : MethodId := ⟨1, 3⟩
def args0 : Array Value := #[.int 5, .int 5, .int 5, .int 5, .int 5, .int 5]
def aboutOver (below : List Frame) : State where
  vm := { classes := classes, interned := interned.toArray }
  heap := heap
  slotsUsed := slotsUsed
  threads := #[{ frames := .invoking theMethod args0 :: below }]
def below0 : List Frame := [.native { method := ⟨0, 0⟩, args := #[] }]
def about1 : State := aboutOver below0
def p0 : Program := .bare "" "" ""
def e0 : Env := launch0.env 0 0 0
theorem w_frames : about1.frames = Frame.invoking theMethod args0 :: below0 := rfl
set_option maxRecDepth 65536 in
theorem w_args : argsFit about1.vm theMethod args0 = true := by decide +kernel
set_option maxRecDepth 65536 in
theorem w_heap : heapFits about1 = true := by decide +kernel
set_option maxRecDepth 65536 in
theorem w_runnable : about1.curStatus? = some .runnable := by decide +kernel
set_option maxRecDepth 65536 in
theorem w_alone : about1.alone = true := by decide +kernel
set_option maxRecDepth 65536 in
theorem w_named : about1.methodNamed? x = some theMethod := by decide +kernel
set_option maxRecDepth 65536 in
theorem w_hears : about1.hears theMethod below0 = true := by decide +kernel
set_option maxRecDepth 65536 in
theorem w_ripe : about1.ripe theMethod args0 below0 = true := by decide +kernel
theorem w_running : about1.status = .running := rfl
set_option maxRecDepth 65536 in
theorem w_room : about1.hasRoom e0.platform room_1 = true :=
  launch0.hasRoom_least _ room_1 (by decide +kernel) (by decide +kernel) (by decide +kernel) (by decide +kernel) (by decide +kernel) (by decide +kernel)
theorem allAtoms_all (ts : List Jvm.Cond) (a : Array Jvm.Value) (st : Jvm.State) : (allAtoms ts).before a st = ts.all (fun c => c.before a st) := by
  induction ts with
  | nil => rfl
  | cons c t ih =>
    show (Jvm.Cond.and c (allAtoms t)).before a st = _
    rw [Jvm.Cond.before_and, ih, List.all_cons]
def words1 : List Jvm.Cond := Jvm.Cond.code x code maxLocals ret :: tables_1
/-- a 'code' word, met by the world's own term for the bytes: nothing is compared byte by byte -/
theorem code_word {y : MethodName} {bytes : ByteArray} {mx : Nat} {rt : Option FieldType} {a : Array Value} {s : State} {m : MethodId} {meth : Method} {c : Code} (h1 : s.methodNamed? y = some m) (h2 : s.vm.method? m = some meth) (h3 : meth.code = some c) (h4 : c.code = bytes)
    (h5 : (c.maxLocals == mx && c.exceptionTable.isEmpty && decide (c.maxStack ≤ mostOperands) && decide (meth.sig.returnType = rt) && !meth.locks && decide (parseMethodDescriptor y.desc = some meth.sig)) = true) : (Jvm.Cond.code y bytes mx rt).before a s = true := by
  simp only [Bool.and_eq_true, beq_iff_eq, Bool.not_eq_true', decide_eq_true_eq] at h5
  obtain ⟨⟨⟨⟨⟨g1, g2⟩, g3⟩, g4⟩, g5⟩, g6⟩ := h5
  simp [Cond.before, Cond.holds, Cond.value, h1, h2, h3, h4, g1, g2, g3, g4, g5, g6]
def isCode : Jvm.Cond → Bool
  | .code _ _ _ _ => true
  | _ => false
theorem all_split {L : List Jvm.Cond} {P : Jvm.Cond → Bool} (h1 : L.all (fun c => isCode c || P c) = true) (h2 : ∀ c ∈ L.filter isCode, P c = true) : L.all P = true := by
  refine List.all_eq_true.mpr fun c hc => ?_
  have h := List.all_eq_true.mp h1 c hc
  rcases Bool.eq_false_or_eq_true (isCode c) with hi | hi
  · exact h2 c (List.mem_filter.mpr ⟨hc, hi⟩)
  · simpa [hi] using h
set_option maxRecDepth 65536 in
theorem w_c0 : (Jvm.Cond.code x code maxLocals ret).before args0 about1 = true := code_word (m := ⟨1, 3⟩) (meth := k1m3) (c := k1c3) (by decide +kernel) rfl rfl rfl (by decide +kernel)
set_option maxRecDepth 65536 in
theorem w_c1 : (Jvm.Cond.code ({ cls := "com/example/longhold/longhold/bagit/ChecksumAlgorithmParsePinLaw", name := "draw", desc := "(IZ)B" } : Jvm.MethodName) method_3_code (2 : Nat) (Option.some Jvm.ClassFile.FieldType.byte)).before args0 about1 = true := code_word (m := ⟨1, 2⟩) (meth := k1m2) (c := k1c2) (by decide +kernel) rfl rfl rfl (by decide +kernel)
set_option maxRecDepth 65536 in
theorem w_c2 : (Jvm.Cond.code ({ cls := "com/example/longhold/longhold/bagit/ChecksumAlgorithm", name := "parse", desc := "([BII)[B" } : Jvm.MethodName) prog_13_method_8_code (9 : Nat) (Option.some (Jvm.ClassFile.FieldType.array Jvm.ClassFile.FieldType.byte))).before args0 about1 = true := code_word (m := ⟨6, 0⟩) (meth := k6m0) (c := k6c0) (by decide +kernel) rfl rfl rfl (by decide +kernel)
set_option maxRecDepth 65536 in
theorem w_c3 : (Jvm.Cond.code ({ cls := "com/example/longhold/longhold/bagit/ChecksumAlgorithm", name := "hexDigit", desc := "(B)I" } : Jvm.MethodName) prog_13_method_9_code (1 : Nat) (Option.some Jvm.ClassFile.FieldType.int)).before args0 about1 = true := code_word (m := ⟨6, 1⟩) (meth := k6m1) (c := k6c1) (by decide +kernel) rfl rfl rfl (by decide +kernel)
set_option maxRecDepth 65536 in
theorem w_c4 : (Jvm.Cond.code ({ cls := "com/example/longhold/longhold/bagit/ChecksumAlgorithmParsePinLaw", name := "hexRef", desc := "(B)I" } : Jvm.MethodName) method_2_code (2 : Nat) (Option.some Jvm.ClassFile.FieldType.int)).before args0 about1 = true := code_word (m := ⟨1, 1⟩) (meth := k1m1) (c := k1c1) (by decide +kernel) rfl rfl rfl (by decide +kernel)
set_option maxRecDepth 65536 in
theorem w_c5 : (Jvm.Cond.code ({ cls := "java/lang/String", name := "charAt", desc := "(I)C" } : Jvm.MethodName) jdk_42_method_56_code (2 : Nat) (Option.some Jvm.ClassFile.FieldType.char)).before args0 about1 = true := code_word (m := ⟨9, 1⟩) (meth := k9m1) (c := k9c1) (by decide +kernel) rfl rfl rfl (by decide +kernel)
set_option maxRecDepth 65536 in
theorem w_c6 : (Jvm.Cond.code ({ cls := "java/lang/String", name := "isLatin1", desc := "()Z" } : Jvm.MethodName) jdk_42_method_154_code (1 : Nat) (Option.some Jvm.ClassFile.FieldType.boolean)).before args0 about1 = true := code_word (m := ⟨9, 2⟩) (meth := k9m2) (c := k9c2) (by decide +kernel) rfl rfl rfl (by decide +kernel)
set_option maxRecDepth 65536 in
theorem w_c7 : (Jvm.Cond.code ({ cls := "java/lang/StringLatin1", name := "charAt", desc := "([BI)C" } : Jvm.MethodName) jdk_43_method_2_code (2 : Nat) (Option.some Jvm.ClassFile.FieldType.char)).before args0 about1 = true := code_word (m := ⟨10, 1⟩) (meth := k10m1) (c := k10c1) (by decide +kernel) rfl rfl rfl (by decide +kernel)
set_option maxRecDepth 65536 in
theorem w_c8 : (Jvm.Cond.code ({ cls := "java/lang/String", name := "checkIndex", desc := "(II)V" } : Jvm.MethodName) jdk_42_method_155_code (2 : Nat) (Option.none : Option Jvm.ClassFile.FieldType)).before args0 about1 = true := code_word (m := ⟨9, 3⟩) (meth := k9m3) (c := k9c3) (by decide +kernel) rfl rfl rfl (by decide +kernel)
set_option maxRecDepth 65536 in
theorem w_c9 : (Jvm.Cond.code ({ cls := "jdk/internal/util/Preconditions", name := "checkIndex", desc := "(IILjava/util/function/BiFunction;)I" } : Jvm.MethodName) jdk_41_method_11_code (3 : Nat) (Option.some Jvm.ClassFile.FieldType.int)).before args0 about1 = true := code_word (m := ⟨11, 1⟩) (meth := k11m1) (c := k11c1) (by decide +kernel) rfl rfl rfl (by decide +kernel)
def codes1 : List Jvm.Cond := [Jvm.Cond.code x code maxLocals ret, Jvm.Cond.code ({ cls := "com/example/longhold/longhold/bagit/ChecksumAlgorithmParsePinLaw", name := "draw", desc := "(IZ)B" } : Jvm.MethodName) method_3_code (2 : Nat) (Option.some Jvm.ClassFile.FieldType.byte), Jvm.Cond.code ({ cls := "com/example/longhold/longhold/bagit/ChecksumAlgorithm", name := "parse", desc := "([BII)[B" } : Jvm.MethodName) prog_13_method_8_code (9 : Nat) (Option.some (Jvm.ClassFile.FieldType.array Jvm.ClassFile.FieldType.byte)), Jvm.Cond.code ({ cls := "com/example/longhold/longhold/bagit/ChecksumAlgorithm", name := "hexDigit", desc := "(B)I" } : Jvm.MethodName) prog_13_method_9_code (1 : Nat) (Option.some Jvm.ClassFile.FieldType.int), Jvm.Cond.code ({ cls := "com/example/longhold/longhold/bagit/ChecksumAlgorithmParsePinLaw", name := "hexRef", desc := "(B)I" } : Jvm.MethodName) method_2_code (2 : Nat) (Option.some Jvm.ClassFile.FieldType.int), Jvm.Cond.code ({ cls := "java/lang/String", name := "charAt", desc := "(I)C" } : Jvm.MethodName) jdk_42_method_56_code (2 : Nat) (Option.some Jvm.ClassFile.FieldType.char), Jvm.Cond.code ({ cls := "java/lang/String", name := "isLatin1", desc := "()Z" } : Jvm.MethodName) jdk_42_method_154_code (1 : Nat) (Option.some Jvm.ClassFile.FieldType.boolean), Jvm.Cond.code ({ cls := "java/lang/StringLatin1", name := "charAt", desc := "([BI)C" } : Jvm.MethodName) jdk_43_method_2_code (2 : Nat) (Option.some Jvm.ClassFile.FieldType.char), Jvm.Cond.code ({ cls := "java/lang/String", name := "checkIndex", desc := "(II)V" } : Jvm.MethodName) jdk_42_method_155_code (2 : Nat) (Option.none : Option Jvm.ClassFile.FieldType), Jvm.Cond.code ({ cls := "jdk/internal/util/Preconditions", name := "checkIndex", desc := "(IILjava/util/function/BiFunction;)I" } : Jvm.MethodName) jdk_41_method_11_code (3 : Nat) (Option.some Jvm.ClassFile.FieldType.int)]
set_option maxRecDepth 65536 in
theorem codes_eq : words1.filter isCode = codes1 := rfl
theorem w_codes : ∀ c ∈ words1.filter isCode, c.before args0 about1 = true := by
  rw [codes_eq]
  intro c hc
  simp only [codes1, List.mem_cons, List.not_mem_nil, or_false] at hc
  rcases hc with rfl | rfl | rfl | rfl | rfl | rfl | rfl | rfl | rfl | rfl
  · exact w_c0
  · exact w_c1
  · exact w_c2
  · exact w_c3
  · exact w_c4
  · exact w_c5
  · exact w_c6
  · exact w_c7
  · exact w_c8
  · exact w_c9
set_option maxRecDepth 65536 in
theorem w_t1 : (words1.take 24).all (fun c => isCode c || c.before args0 about1) = true := by decide +kernel
set_option maxRecDepth 65536 in
theorem w_t2 : ((words1.drop 24).take 24).all (fun c => isCode c || c.before args0 about1) = true := by decide +kernel
set_option maxRecDepth 65536 in
theorem w_t3 : ((words1.drop 24).drop 24).all (fun c => isCode c || c.before args0 about1) = true := by decide +kernel
theorem w_tables : (allAtoms (Jvm.Cond.code x code maxLocals ret :: tables_1)).before args0 about1 = true := by
  rw [allAtoms_all]
  show words1.all (fun c => c.before args0 about1) = true
  refine all_split ?_ w_codes
  rw [← List.take_append_drop 24 words1, List.all_append, w_t1, ← List.take_append_drop 24 (words1.drop 24), List.all_append, w_t2, w_t3]
  rfl
set_option maxRecDepth 65536 in
theorem w_rest : rest_1_c.before args0 about1 = true := by decide +kernel
set_option maxRecDepth 65536 in
theorem w_case : (Jvm.Cond.and given_1 narrow_1).before args0 about1 = true := by decide +kernel
set_option maxRecDepth 65536 in
theorem w_consts : constsHeld consts_1 about1 := Jvm.Lit.constsHeldB_iff.mp (by decide +kernel)
theorem w_applies : (headSpec (Jvm.Cond.code x code maxLocals ret :: tables_1) room_1).applies x e0.platform about1 = true :=
  (Spec.applies_iff w_frames).mpr ⟨w_running, w_runnable, w_alone, w_named, w_hears, w_ripe, w_room, w_tables⟩
theorem atStart : AtStart classFile x code maxLocals ret World_1 tables_1 room_1 Calls_1 rest_1 Pre_1 launch0 p0 e0 about1 theMethod args0 below0 :=
  ⟨lists_1, trivial, launch0.admits_env _ _ _, launch0.least_env, fairChoices_fair.cas, fairChoices_fair.clock, w_frames, w_args, w_heap, w_applies, ⟨w_consts, trivial⟩, w_rest, w_case⟩
end start1
theorem witness_1 : WitnessClaimed_1 := ⟨start1.p0, start1.e0, start1.about1, start1.theMethod, start1.args0, start1.below0, start1.atStart⟩
end Jvm.Pilot.@@N@@
