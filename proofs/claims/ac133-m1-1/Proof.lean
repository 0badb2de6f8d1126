import JvmDerived
import JvmDerived.Pilot.@@N@@Statement
import JvmDerived.Pilot.@@N@@Code
set_option linter.unusedVariables false
set_option linter.unusedSimpArgs false
@@BLOCK:NumsL.lean.txt@@
namespace Jvm.Pilot.@@N@@
open Jvm Jvm.ClassFile Sem Op Lib Jvm.Free Jvm.Stand Jvm.LawKit Jvm.RoadKit Bundle Jvm.Pilot.@@N@@.Jvm.D
/-! own layer: the run from here ends, and Q holds of what it returned, of the heap and of the places written -/
def own_End (p : Program) (e : Env) (below : List Frame) (P : State → Outcome → Prop) (T : State) (f : JFrame) : Prop := ∃ s₂ o, Steps p.tables e below (T.setTop f) s₂ ∧ P s₂ o
def own_P (below : List Frame) (s : State) (Q : Option Value → Heap → List Loc → Prop) (kc ns : Nat) : State → Outcome → Prop := fun s₂ o => s₂.status = .running ∧ Ended s₂ below o ∧ ∃ v L, o = .returned v ∧ Q v s₂.heap L ∧ FrameEnd s o s₂ L kc ns
def own_Met (l : Launch) (Z : State) (y : MethodName) (bytes : ByteArray) (maxL : Nat) (ret : Option FieldType) (ws : List Jvm.Cond) (rm : Room) (as' : Array Value) (h : Heap) (Q : Option Value → Heap → List Loc → Prop) : Prop :=
  MetFree l y (head1 (Jvm.Cond.code y bytes maxL ret :: ws) rm) (fun a U => a = as' ∧ Z.Warmed39 U.vm ∧ U.heap = h) (fun _ _ _ _ _ => True) (fun _ U o U' => ∃ v L, o = .returned v ∧ Q v U'.heap L ∧ FrameEnd U o U' L rm.cells rm.slots)
section OwnSteps
variable {p : Program} {l : Launch} {e : Env} {R : Room} {s : State} {m : MethodId} {args : Array Value} {below : List Frame} {meth : Method} {c : Code} {T : State} {locs : List Loc} {cells slots : Nat} {P : State → Outcome → Prop} {Q : Option Value → Heap → List Loc → Prop} {kc ns : Nat} {Z : State} {a0 : Array Value} {h : Heap} {f : JFrame}
theorem own_go {T' : State} {f' : JFrame} (st : ∀ t, Steps p.tables e below (T'.setTop f') t → Steps p.tables e below (T.setTop f) t) (k : own_End p e below P T' f') : own_End p e below P T f := by
  obtain ⟨s₂, o, h1, h2⟩ := k
  exact ⟨s₂, o, st _ h1, h2⟩
theorem own_via {T' : State} {f' : JFrame} (st : Steps p.tables e below (T.setTop f) (T'.setTop f')) (k : own_End p e below P T' f') : own_End p e below P T f := own_go (fun _ h => st.trans h) k
theorem own_exf (h : False) : own_End p e below P T f := h.elim
theorem own_body {y : MethodName} {bytes : ByteArray} {maxL : Nat} {ret : Option FieldType} {ws : List Jvm.Cond} {rm : Room} {as' : Array Value} (hpl : plainFor y = true)
    (body : ∀ (p : Program) (e : Env) (s : State) (m : MethodId) (below : List Frame) (meth : Method) (c : Code) (s₁ : State), p.tables.exec = Jvm.exec → Z.Warmed39 s.vm → c.code = bytes → c.maxLocals = maxL → s.vm.findClass y.cls = some m.cls → meth.name = y.name → meth.sig.returnType = ret → meth.locks = false →
      Stand p l e rm s m as' below meth c s₁ [] 0 0 → s₁.heap = h → own_End p e below (own_P below s Q rm.cells rm.slots) s₁ (entryFrame m as' maxL)) : own_Met l Z y bytes maxL ret ws rm as' h Q := by
  refine MetFree.of_bodySF hpl hisR ?_
  intro p e s m args below meth c s₁ Bd hml0 hP hK
  obtain ⟨rfl, hZ, hh⟩ := hP
  exact body p e s m below meth c s₁ Bd.exec hZ Bd.bytes hml0 (findClass_of_methodNamed Bd.named) (name_of_methodNamed Bd.named Bd.method).1 Bd.returns Bd.notSynchronized (Stand.of_body Bd) (by rw [← hh, Bd.state]; rfl)
theorem own_cast {g g' : JFrame} (q : g = g') (k : own_End p e below P T g') : own_End p e below P T g := q ▸ k
theorem own_ret (X : Stand p l e R s m args below meth c T locs cells slots) (hP : P = own_P below s Q kc ns) (hlk : meth.locks = false) (eT : T.heap = h) {v : Option Value} (hv : meth.sig.returnType = none → v = none) (hk : cells ≤ kc) (hn : slots ≤ ns) (hQ : Q v h locs)
    (st : ∀ fs, (∀ (f : JFrame) (acts : List Action), f.method = m → f.locked = none → f.entered = [] → (doReturn e (T.setTop f) acts v).1 = T.setFrames fs) → Steps p.tables e below (T.setTop f) (T.setFrames fs)) : own_End p e below P T f := by
  obtain ⟨fs, hr, hrun, hended, hW, hsame⟩ := X.leave hv hlk
  subst hP
  exact ⟨_, _, st fs hr, hrun, hended, _, _, rfl, (eT ▸ hQ : Q v T.heap locs), ⟨_, rfl⟩, hW, hsame.mono hk hn⟩
theorem own_retV (X : Stand p l e R s m args below meth c T locs cells slots) (hP : P = own_P below s Q kc ns) (hx : p.tables.exec = Jvm.exec) (hlk : meth.locks = false) (eT : T.heap = h) {pc : Nat} {Ls : Array Slot} (hret : meth.sig.returnType = none) (hd : decode c.code pc = .ok (.return_, 1)) (hk : cells ≤ kc) (hn : slots ≤ ns) (hQ : Q none h locs) :
    own_End p e below P T (mkF m pc Ls []) := own_ret X hP hlk eT (fun _ => rfl) hk hn hQ fun _ hr => X.returnOut hx hret hd hr
theorem own_retI (X : Stand p l e R s m args below meth c T locs cells slots) (hP : P = own_P below s Q kc ns) (hx : p.tables.exec = Jvm.exec) (hlk : meth.locks = false) (eT : T.heap = h) {pc : Nat} {Ls : Array Slot} {z : Int32} {rest : List Value} (hret : meth.sig.returnType = some .int) (hd : decode c.code pc = .ok (.ireturn, 1)) (hk : cells ≤ kc) (hn : slots ≤ ns) (hQ : Q (some (.int z)) h locs) :
    own_End p e below P T (mkF m pc Ls (.int z :: rest)) := own_ret X hP hlk eT (fun h => by rw [hret] at h; cases h) hk hn hQ fun fs hr => retOut X hx hret rfl (Or.inl ⟨rfl, Or.inl rfl, z, rfl⟩) hd hr
theorem own_retN (X : Stand p l e R s m args below meth c T locs cells slots) (hP : P = own_P below s Q kc ns) (hx : p.tables.exec = Jvm.exec) (hlk : meth.locks = false) (eT : T.heap = h) {pc : Nat} {Ls : Array Slot} {z : Int32} {rest : List Value} {t : FieldType} (hret : meth.sig.returnType = some t) (ht : t = .boolean ∨ t = .byte ∨ t = .char ∨ t = .short) (hd : decode c.code pc = .ok (.ireturn, 1)) (hk : cells ≤ kc) (hn : slots ≤ ns) {z' : Int32} (hz : nar t z = z') (hQ : Q (some (.int z')) h locs) :
    own_End p e below P T (mkF m pc Ls (.int z :: rest)) := by
  subst hz
  exact own_ret X hP hlk eT (fun h => by rw [hret] at h; cases h) hk hn hQ fun fs hr => retN X hx hret ht hd hr
theorem own_retJ (X : Stand p l e R s m args below meth c T locs cells slots) (hP : P = own_P below s Q kc ns) (hx : p.tables.exec = Jvm.exec) (hlk : meth.locks = false) (eT : T.heap = h) {pc : Nat} {Ls : Array Slot} {z : Int64} {rest : List Value} (hret : meth.sig.returnType = some .long) (hd : decode c.code pc = .ok (.lreturn, 1)) (hk : cells ≤ kc) (hn : slots ≤ ns) (hQ : Q (some (.long z)) h locs) :
    own_End p e below P T (mkF m pc Ls (.long z :: rest)) := own_ret X hP hlk eT (fun h => by rw [hret] at h; cases h) hk hn hQ fun fs hr => retOut X hx hret rfl (Or.inr (Or.inl ⟨rfl, rfl, z, rfl⟩)) hd hr
theorem own_retA (X : Stand p l e R s m args below meth c T locs cells slots) (hP : P = own_P below s Q kc ns) (hx : p.tables.exec = Jvm.exec) (hlk : meth.locks = false) (eT : T.heap = h) {pc : Nat} {Ls : Array Slot} {w : Value} {rest : List Value} {t : FieldType} (hret : meth.sig.returnType = some t) (ht : t.isReference = true) (hw : w.isRef = true) (hnr : narrow t w = w) (hd : decode c.code pc = .ok (.areturn, 1)) (hk : cells ≤ kc) (hn : slots ≤ ns) (hQ : Q (some w) h locs) :
    own_End p e below P T (mkF m pc Ls (w :: rest)) := own_ret X hP hlk eT (fun h => by rw [hret] at h; cases h) hk hn hQ fun fs hr => retOut X hx hret hnr (Or.inr (Or.inr (Or.inr (Or.inr ⟨rfl, ht, hw⟩)))) hd hr
theorem own_callS (X : Stand p l e R s m args below meth c T locs cells slots) (hx : p.tables.exec = Jvm.exec) (hZ : Z.Warmed39 s.vm) {own : String} (hown : s.vm.findClass own = some m.cls) (eT : T.heap = h) {index : Nat} {y : MethodName} {bytes : ByteArray} {maxL : Nat} {ret : Option FieldType} {rm : Room} {as' : Array Value} {Q' : Option Value → Heap → List Loc → Prop}
    (w1 : (Cond.methodLink own index y).before a0 Z = true) (w2 : (Cond.static y).before a0 Z = true) (w3 : (Cond.initialized y.cls).before a0 Z = true) (w4 : (Cond.code y bytes maxL ret).before a0 Z = true) (hy : y.cls ≠ "java/lang/invoke/MethodHandle" ∧ y.cls ≠ "java/lang/invoke/VarHandle")
    (hM : own_Met l Z y bytes maxL ret [] rm as' h Q') {g : JFrame} (hg : g.method = m) (hsize : g.locals.size = c.maxLocals) {argsL rest : List Value} (hlen : ∀ sig, parseMethodDescriptor y.desc = some sig → argsL.length = sig.parameters.length) (hstack : g.stack = argsL.reverse ++ rest) (has : argsL.toArray = as') {W : Nat} (hW : 2 * g.monitorRoom + (rest.map fun v => v.category).sum ≤ W) (hdg : decode c.code g.pc = .ok (.invokestatic index, 3))
    (hf : rm.frames + 1 ≤ R.frames) (hl : W + (maxL + 11) + rm.locals ≤ R.locals) (hc : cells + rm.cells ≤ R.cells) (hs : slots + rm.slots ≤ R.slots)
    (k : ∀ v T' L, Stand p l e R s m args below meth c T' (locs ++ L) (cells + rm.cells) (slots + rm.slots) → Q' v T'.heap L → own_End p e below P T' { g with pc := g.pc + 3, stack := v.toList ++ rest }) : own_End p e below P T g := by
  obtain ⟨v, vm1, ⟨T', L1, k1, n1⟩, -, X', ⟨L, hQ, l1, y1, z1⟩, st⟩ := Jvm.LawKit.callS X hx (y := y) hown (mvT hZ w1) (mvT hZ w2) (mvT hZ w3) (mvT hZ w4) hy (backOf (W := W) hM hZ w4 w3 hf hl) hg hsize hlen hstack hW hdg (fun _ _ => ⟨has, eT, hc, hs⟩)
  dsimp only [Pt.U, Pt.locs, Pt.cells, Pt.slots] at X' l1 y1 z1 st hQ
  subst l1 y1 z1
  exact own_go st (k v T' L X' hQ)
theorem own_callC (X : Stand p l e R s m args below meth c T locs cells slots) (hx : p.tables.exec = Jvm.exec) (hZ : Z.Warmed39 s.vm) {own : String} (hown : s.vm.findClass own = some m.cls) (eT : T.heap = h) {index : Nat} {y : MethodName} {bytes : ByteArray} {maxL : Nat} {rm : Room} {as' : Array Value} {Q' : Option Value → Heap → List Loc → Prop}
    (hyi : y.name = "<init>") (w1 : (Cond.methodLink own index y).before a0 Z = true) (w2 : (Cond.instanceMethod y).before a0 Z = true) (w3 : (Cond.initialized y.cls).before a0 Z = true) (w4 : (Cond.code y bytes maxL none).before a0 Z = true) (hy : y.cls ≠ "java/lang/invoke/MethodHandle" ∧ y.cls ≠ "java/lang/invoke/VarHandle")
    (hM : own_Met l Z y bytes maxL none [] rm as' h Q') {g : JFrame} (hg : g.method = m) (hsize : g.locals.size = c.maxLocals) {a : Addr} {argsL rest : List Value} (hlen : ∀ sig, parseMethodDescriptor y.desc = some sig → argsL.length = sig.parameters.length) (hstack : g.stack = argsL.reverse ++ .ref a :: rest) (has : (.ref a :: argsL).toArray = as') {W : Nat} (hW : 2 * g.monitorRoom + (rest.map fun v => v.category).sum ≤ W) (hdg : decode c.code g.pc = .ok (.invokespecial index, 3))
    (hf : rm.frames + 1 ≤ R.frames) (hl : W + (maxL + 11) + rm.locals ≤ R.locals) (hc : cells + rm.cells ≤ R.cells) (hs : slots + rm.slots ≤ R.slots)
    (k : ∀ v T' L, Stand p l e R s m args below meth c T' (locs ++ L) (cells + rm.cells) (slots + rm.slots) → Q' v T'.heap L → own_End p e below P T' { g with pc := g.pc + 3, stack := v.toList ++ rest }) : own_End p e below P T g := by
  obtain ⟨v, vm1, ⟨T', L1, k1, n1⟩, -, X', ⟨L, hQ, l1, y1, z1⟩, st⟩ := X.specialBack hx (y := y) hyi hown (mvT hZ w1) (mvT hZ w2) (mvT hZ w4) hy (backOf (W := W) hM hZ w4 w3 hf hl) hg hsize (Steps.refl _) (a := a) hlen hstack hW hdg (fun _ _ => ⟨has, eT, hc, hs⟩)
  dsimp only [Pt.U, Pt.locs, Pt.cells, Pt.slots] at X' l1 y1 z1 st hQ
  subst l1 y1 z1
  exact own_via st (k v T' L X' hQ)
theorem own_callV (X : Stand p l e R s m args below meth c T locs cells slots) (hx : p.tables.exec = Jvm.exec) (hZ : Z.Warmed39 s.vm) {own : String} (hown : s.vm.findClass own = some m.cls) (eT : T.heap = h) {index : Nat} {C : String} {y z : MethodName} {bytes : ByteArray} {maxL : Nat} {ret : Option FieldType} {rm : Room} {as' : Array Value} {Q' : Option Value → Heap → List Loc → Prop}
    (w1 : (Cond.methodLink own index y).before a0 Z = true) (wd : (Cond.declares y).before a0 Z = true) (hnf : NotFace s y) (wsel : (Cond.selects C y z).before a0 Z = true) (w2 : (Cond.instanceMethod z).before a0 Z = true) (w3 : (Cond.initialized z.cls).before a0 Z = true) (w4 : (Cond.code z bytes maxL ret).before a0 Z = true) (hy : y.cls ≠ "java/lang/invoke/MethodHandle" ∧ y.cls ≠ "java/lang/invoke/VarHandle")
    (hM : own_Met l Z z bytes maxL ret [] rm as' h Q') {a : Addr} (E : Exa Z h a C) {g : JFrame} (hg : g.method = m) (hsize : g.locals.size = c.maxLocals) {argsL rest : List Value} (hlen : ∀ sig, parseMethodDescriptor y.desc = some sig → argsL.length = sig.parameters.length) (hstack : g.stack = argsL.reverse ++ .ref a :: rest) (has : (.ref a :: argsL).toArray = as') {W : Nat} (hW : 2 * g.monitorRoom + (rest.map fun v => v.category).sum ≤ W) (hdg : decode c.code g.pc = .ok (.invokevirtual index, 3))
    (hf : rm.frames + 1 ≤ R.frames) (hl : W + (maxL + 11) + rm.locals ≤ R.locals) (hc : cells + rm.cells ≤ R.cells) (hs : slots + rm.slots ≤ R.slots)
    (k : ∀ v T' L, Stand p l e R s m args below meth c T' (locs ++ L) (cells + rm.cells) (slots + rm.slots) → Q' v T'.heap L → own_End p e below P T' { g with pc := g.pc + 3, stack := v.toList ++ rest }) : own_End p e below P T g := by
  obtain ⟨cB, kB, q1, q2, q3⟩ := isOf (T := T) hZ eT E
  obtain ⟨v, vm1, ⟨T', L1, k1, n1⟩, -, X', ⟨L, hQ, l1, y1, z1⟩, st⟩ := X.virtualBack hx (y := y) (z := z) hown (mvT hZ w1) (mvT hZ wd) hnf (mvT hZ wsel) (mvT hZ w2) hy (backOf (W := W) hM hZ w4 w3 hf hl) q1 q3 hg hsize (Steps.refl _) hlen hstack hW hdg (fun _ _ => ⟨has, eT, hc, hs⟩)
  dsimp only [Pt.U, Pt.locs, Pt.cells, Pt.slots] at X' l1 y1 z1 st hQ
  subst l1 y1 z1
  exact own_via st (k v T' L X' hQ)
theorem own_selP {C : String} {x' y y' : MethodName} (wz : (Cond.selects C x' y').before args s = true) (hc : y'.cls = y.cls) (hpriv : s.PrivateAt y) (hinst : (Cond.instanceMethod y).before args s = true) (hy : y.cls ≠ "java/lang/invoke/MethodHandle" ∧ y.cls ≠ "java/lang/invoke/VarHandle") : (Cond.selects y.cls y y).before args s = true := by
  obtain ⟨_, _, m2, -, -, q3, -, kP, hkP, hkPi⟩ := Cond.selects_spec wz
  exact selects_self_of_private (by rw [← hc]; exact findClass_of_methodNamed q3) hkP hkPi hpriv hinst hy
theorem own_callP (X : Stand p l e R s m args below meth c T locs cells slots) (hx : p.tables.exec = Jvm.exec) (hZ : Z.Warmed39 s.vm) {own : String} (hown : s.vm.findClass own = some m.cls) (eT : T.heap = h) {index : Nat} {y : MethodName} {bytes : ByteArray} {maxL : Nat} {ret : Option FieldType} {rm : Room} {as' : Array Value} {Q' : Option Value → Heap → List Loc → Prop}
    (w1 : (Cond.methodLink own index y).before a0 Z = true) (w2 : (Cond.instanceMethod y).before a0 Z = true) (wsel : (Cond.selects y.cls y y).before args s = true) (wp : (Cond.privateMethod y).before a0 Z = true) (w3 : (Cond.initialized y.cls).before a0 Z = true) (w4 : (Cond.code y bytes maxL ret).before a0 Z = true) (hy : y.cls ≠ "java/lang/invoke/MethodHandle" ∧ y.cls ≠ "java/lang/invoke/VarHandle")
    (hM : own_Met l Z y bytes maxL ret [] rm as' h Q') {C : String} {a : Addr} (E : Exa Z h a C) {g : JFrame} (hg : g.method = m) (hsize : g.locals.size = c.maxLocals) {argsL rest : List Value} (hlen : ∀ sig, parseMethodDescriptor y.desc = some sig → argsL.length = sig.parameters.length) (hstack : g.stack = argsL.reverse ++ .ref a :: rest) (has : (.ref a :: argsL).toArray = as') {W : Nat} (hW : 2 * g.monitorRoom + (rest.map fun v => v.category).sum ≤ W) (hdg : decode c.code g.pc = .ok (.invokevirtual index, 3))
    (hf : rm.frames + 1 ≤ R.frames) (hl : W + (maxL + 11) + rm.locals ≤ R.locals) (hc : cells + rm.cells ≤ R.cells) (hs : slots + rm.slots ≤ R.slots)
    (k : ∀ v T' L, Stand p l e R s m args below meth c T' (locs ++ L) (cells + rm.cells) (slots + rm.slots) → Q' v T'.heap L → own_End p e below P T' { g with pc := g.pc + 3, stack := v.toList ++ rest }) : own_End p e below P T g := by
  obtain ⟨cq, q1, q2⟩ := E.cell
  obtain ⟨v, vm1, ⟨T', L1, k1, n1⟩, -, X', ⟨L, hQ, l1, y1, z1⟩, st⟩ := X.privateBack hx (y := y) hown (mvT hZ w1) (mvT hZ w2) wsel (Cond.privateMethod_at (mvP hZ wp (args := #[]))) (mvT hZ w4) hy (backOf (W := W) hM hZ w4 w3 hf hl) hg hsize (Steps.refl _) (a := a) (by rw [eT]; exact q1) q2 hlen hstack hW hdg (fun _ _ => ⟨has, eT, hc, hs⟩)
  dsimp only [Pt.U, Pt.locs, Pt.cells, Pt.slots] at X' l1 y1 z1 st hQ
  subst l1 y1 z1
  exact own_via st (k v T' L X' hQ)
end OwnSteps
/-! own: a truth as an int; comparisons of longs -/
def own_z (P : Prop) [Decidable P] : Int32 := if P then 1 else 0
section OwnTruth
variable {P : Prop} [Decidable P] {x y : Int64}
theorem own_z_t (h : P) : own_z P = 1 := if_pos h
theorem own_z_f (h : ¬ P) : own_z P = 0 := if_neg h
theorem own_z_nar : nar .boolean (own_z P) = own_z P := by unfold own_z; split <;> decide
theorem own_z_congr {P' : Prop} [Decidable P'] (h : P ↔ P') : own_z P = own_z P' := by unfold own_z; by_cases q : P <;> simp [q, h.symm, h.mp] <;> simp_all
theorem own_z_inj {P' : Prop} [Decidable P'] (h : own_z P = own_z P') : P ↔ P' := by
  unfold own_z at h; by_cases q : P <;> by_cases q' : P' <;> simp_all
theorem own_zY_eq (h : ¬ P) : ifCond.holds .eq (own_z P) = true := by rw [own_z_f h]; rfl
theorem own_zN_eq (h : P) : ifCond.holds .eq (own_z P) = false := by rw [own_z_t h]; rfl
theorem own_zY_ne (h : P) : ifCond.holds .ne (own_z P) = true := by rw [own_z_t h]; rfl
theorem own_zN_ne (h : ¬ P) : ifCond.holds .ne (own_z P) = false := by rw [own_z_f h]; rfl
theorem own_lY_lt (h : x < y) : ifCond.holds .lt (lcmpW x y) = true := (if0 _ _).trans (tlt ((lw_lt x y).mpr h)).1
theorem own_lN_lt (h : ¬ x < y) : ifCond.holds .lt (lcmpW x y) = false := (if0 _ _).trans (flt (mt (lw_lt x y).mp h)).1
theorem own_lY_ge (h : ¬ x < y) : ifCond.holds .ge (lcmpW x y) = true := (if0 _ _).trans (flt (mt (lw_lt x y).mp h)).2.1
theorem own_lN_ge (h : x < y) : ifCond.holds .ge (lcmpW x y) = false := (if0 _ _).trans (tlt ((lw_lt x y).mpr h)).2.1
theorem own_lY_gt (h : y < x) : ifCond.holds .gt (lcmpW x y) = true := (if0 _ _).trans (tlt ((lw_gt x y).mpr h)).2.2.1
theorem own_lN_gt (h : ¬ y < x) : ifCond.holds .gt (lcmpW x y) = false := (if0 _ _).trans (flt (mt (lw_gt x y).mp h)).2.2.1
theorem own_lY_le (h : ¬ y < x) : ifCond.holds .le (lcmpW x y) = true := (if0 _ _).trans (flt (mt (lw_gt x y).mp h)).2.2.2
theorem own_lN_le (h : y < x) : ifCond.holds .le (lcmpW x y) = false := (if0 _ _).trans (tlt ((lw_gt x y).mpr h)).2.2.2
theorem own_lY_eq (h : x = y) : ifCond.holds .eq (lcmpW x y) = true := (if0 _ _).trans (teq ((lw_eq x y).mpr h)).1
theorem own_lN_eq (h : ¬ x = y) : ifCond.holds .eq (lcmpW x y) = false := (if0 _ _).trans (feq (mt (lw_eq x y).mp h)).1
theorem own_lY_ne (h : ¬ x = y) : ifCond.holds .ne (lcmpW x y) = true := (if0 _ _).trans (feq (mt (lw_eq x y).mp h)).2
theorem own_lN_ne (h : x = y) : ifCond.holds .ne (lcmpW x y) = false := (if0 _ _).trans (teq ((lw_eq x y).mpr h)).2
end OwnTruth
/-! own: a callee that writes nothing -/
def own_Pq (val : Option Value) (h : Heap) : Option Value → Heap → List Loc → Prop := fun v h' L => v = val ∧ L = [] ∧ h' = h
section OwnPure
variable {p : Program} {l : Launch} {e : Env} {R : Room} {s : State} {m : MethodId} {args : Array Value} {below : List Frame} {meth : Method} {c : Code} {T : State} {locs : List Loc} {cells slots : Nat} {P : State → Outcome → Prop} {Q : Option Value → Heap → List Loc → Prop} {kc ns : Nat} {Z : State} {a0 : Array Value} {h : Heap} {f : JFrame}
theorem own_callSp (X : Stand p l e R s m args below meth c T locs cells slots) (hx : p.tables.exec = Jvm.exec) (hZ : Z.Warmed39 s.vm) {own : String} (hown : s.vm.findClass own = some m.cls) (eT : T.heap = h) {index : Nat} {y : MethodName} {bytes : ByteArray} {maxL : Nat} {ret : Option FieldType} {fr lo : Nat} {as' : Array Value} {val : Option Value}
    (w1 : (Cond.methodLink own index y).before a0 Z = true) (w2 : (Cond.static y).before a0 Z = true) (w3 : (Cond.initialized y.cls).before a0 Z = true) (w4 : (Cond.code y bytes maxL ret).before a0 Z = true) (hy : y.cls ≠ "java/lang/invoke/MethodHandle" ∧ y.cls ≠ "java/lang/invoke/VarHandle")
    (hM : own_Met l Z y bytes maxL ret [] { frames := fr, cells := 0, slots := 0, locals := lo } as' h (own_Pq val h)) {g : JFrame} (hg : g.method = m) (hsize : g.locals.size = c.maxLocals) {argsL rest : List Value} (hlen : ∀ sig, parseMethodDescriptor y.desc = some sig → argsL.length = sig.parameters.length) (hstack : g.stack = argsL.reverse ++ rest) (has : argsL.toArray = as') {W : Nat} (hW : 2 * g.monitorRoom + (rest.map fun v => v.category).sum ≤ W) (hdg : decode c.code g.pc = .ok (.invokestatic index, 3))
    (hf : fr + 1 ≤ R.frames) (hl : W + (maxL + 11) + lo ≤ R.locals) (hc : cells ≤ R.cells) (hs : slots ≤ R.slots)
    (k : ∀ T', Stand p l e R s m args below meth c T' locs cells slots → T'.heap = h → own_End p e below P T' { g with pc := g.pc + 3, stack := val.toList ++ rest }) : own_End p e below P T g :=
  own_callS X hx hZ hown eT w1 w2 w3 w4 hy hM hg hsize hlen hstack has hW hdg hf hl hc hs fun v T' L X' ⟨q1, q2, q3⟩ => by
    subst q1 q2
    rw [List.append_nil] at X'
    exact k T' X' q3
theorem own_callCp (X : Stand p l e R s m args below meth c T locs cells slots) (hx : p.tables.exec = Jvm.exec) (hZ : Z.Warmed39 s.vm) {own : String} (hown : s.vm.findClass own = some m.cls) (eT : T.heap = h) {index : Nat} {y : MethodName} {bytes : ByteArray} {maxL : Nat} {fr lo : Nat} {as' : Array Value} {val : Option Value}
    (hyi : y.name = "<init>") (w1 : (Cond.methodLink own index y).before a0 Z = true) (w2 : (Cond.instanceMethod y).before a0 Z = true) (w3 : (Cond.initialized y.cls).before a0 Z = true) (w4 : (Cond.code y bytes maxL none).before a0 Z = true) (hy : y.cls ≠ "java/lang/invoke/MethodHandle" ∧ y.cls ≠ "java/lang/invoke/VarHandle")
    (hM : own_Met l Z y bytes maxL none [] { frames := fr, cells := 0, slots := 0, locals := lo } as' h (own_Pq val h)) {g : JFrame} (hg : g.method = m) (hsize : g.locals.size = c.maxLocals) {a : Addr} {argsL rest : List Value} (hlen : ∀ sig, parseMethodDescriptor y.desc = some sig → argsL.length = sig.parameters.length) (hstack : g.stack = argsL.reverse ++ .ref a :: rest) (has : (.ref a :: argsL).toArray = as') {W : Nat} (hW : 2 * g.monitorRoom + (rest.map fun v => v.category).sum ≤ W) (hdg : decode c.code g.pc = .ok (.invokespecial index, 3))
    (hf : fr + 1 ≤ R.frames) (hl : W + (maxL + 11) + lo ≤ R.locals) (hc : cells ≤ R.cells) (hs : slots ≤ R.slots)
    (k : ∀ T', Stand p l e R s m args below meth c T' locs cells slots → T'.heap = h → own_End p e below P T' { g with pc := g.pc + 3, stack := val.toList ++ rest }) : own_End p e below P T g :=
  own_callC X hx hZ hown eT hyi w1 w2 w3 w4 hy hM hg hsize hlen hstack has hW hdg hf hl hc hs fun v T' L X' ⟨q1, q2, q3⟩ => by
    subst q1 q2
    rw [List.append_nil] at X'
    exact k T' X' q3
theorem own_callVp (X : Stand p l e R s m args below meth c T locs cells slots) (hx : p.tables.exec = Jvm.exec) (hZ : Z.Warmed39 s.vm) {own : String} (hown : s.vm.findClass own = some m.cls) (eT : T.heap = h) {index : Nat} {C : String} {y z : MethodName} {bytes : ByteArray} {maxL : Nat} {ret : Option FieldType} {fr lo : Nat} {as' : Array Value} {val : Option Value}
    (w1 : (Cond.methodLink own index y).before a0 Z = true) (wd : (Cond.declares y).before a0 Z = true) (hnf : NotFace s y) (wsel : (Cond.selects C y z).before a0 Z = true) (w2 : (Cond.instanceMethod z).before a0 Z = true) (w3 : (Cond.initialized z.cls).before a0 Z = true) (w4 : (Cond.code z bytes maxL ret).before a0 Z = true) (hy : y.cls ≠ "java/lang/invoke/MethodHandle" ∧ y.cls ≠ "java/lang/invoke/VarHandle")
    (hM : own_Met l Z z bytes maxL ret [] { frames := fr, cells := 0, slots := 0, locals := lo } as' h (own_Pq val h)) {a : Addr} (E : Exa Z h a C) {g : JFrame} (hg : g.method = m) (hsize : g.locals.size = c.maxLocals) {argsL rest : List Value} (hlen : ∀ sig, parseMethodDescriptor y.desc = some sig → argsL.length = sig.parameters.length) (hstack : g.stack = argsL.reverse ++ .ref a :: rest) (has : (.ref a :: argsL).toArray = as') {W : Nat} (hW : 2 * g.monitorRoom + (rest.map fun v => v.category).sum ≤ W) (hdg : decode c.code g.pc = .ok (.invokevirtual index, 3))
    (hf : fr + 1 ≤ R.frames) (hl : W + (maxL + 11) + lo ≤ R.locals) (hc : cells ≤ R.cells) (hs : slots ≤ R.slots)
    (k : ∀ T', Stand p l e R s m args below meth c T' locs cells slots → T'.heap = h → own_End p e below P T' { g with pc := g.pc + 3, stack := val.toList ++ rest }) : own_End p e below P T g :=
  own_callV X hx hZ hown eT w1 wd hnf wsel w2 w3 w4 hy hM E hg hsize hlen hstack has hW hdg hf hl hc hs fun v T' L X' ⟨q1, q2, q3⟩ => by
    subst q1 q2
    rw [List.append_nil] at X'
    exact k T' X' q3
theorem own_callPp (X : Stand p l e R s m args below meth c T locs cells slots) (hx : p.tables.exec = Jvm.exec) (hZ : Z.Warmed39 s.vm) {own : String} (hown : s.vm.findClass own = some m.cls) (eT : T.heap = h) {index : Nat} {y : MethodName} {bytes : ByteArray} {maxL : Nat} {ret : Option FieldType} {fr lo : Nat} {as' : Array Value} {val : Option Value}
    (w1 : (Cond.methodLink own index y).before a0 Z = true) (w2 : (Cond.instanceMethod y).before a0 Z = true) (wsel : (Cond.selects y.cls y y).before args s = true) (wp : (Cond.privateMethod y).before a0 Z = true) (w3 : (Cond.initialized y.cls).before a0 Z = true) (w4 : (Cond.code y bytes maxL ret).before a0 Z = true) (hy : y.cls ≠ "java/lang/invoke/MethodHandle" ∧ y.cls ≠ "java/lang/invoke/VarHandle")
    (hM : own_Met l Z y bytes maxL ret [] { frames := fr, cells := 0, slots := 0, locals := lo } as' h (own_Pq val h)) {C : String} {a : Addr} (E : Exa Z h a C) {g : JFrame} (hg : g.method = m) (hsize : g.locals.size = c.maxLocals) {argsL rest : List Value} (hlen : ∀ sig, parseMethodDescriptor y.desc = some sig → argsL.length = sig.parameters.length) (hstack : g.stack = argsL.reverse ++ .ref a :: rest) (has : (.ref a :: argsL).toArray = as') {W : Nat} (hW : 2 * g.monitorRoom + (rest.map fun v => v.category).sum ≤ W) (hdg : decode c.code g.pc = .ok (.invokevirtual index, 3))
    (hf : fr + 1 ≤ R.frames) (hl : W + (maxL + 11) + lo ≤ R.locals) (hc : cells ≤ R.cells) (hs : slots ≤ R.slots)
    (k : ∀ T', Stand p l e R s m args below meth c T' locs cells slots → T'.heap = h → own_End p e below P T' { g with pc := g.pc + 3, stack := val.toList ++ rest }) : own_End p e below P T g :=
  own_callP X hx hZ hown eT w1 w2 wsel wp w3 w4 hy hM E hg hsize hlen hstack has hW hdg hf hl hc hs fun v T' L X' ⟨q1, q2, q3⟩ => by
    subst q1 q2
    rw [List.append_nil] at X'
    exact k T' X' q3
end OwnPure
/-! own: a cell that is known -/
def own_K (h : Heap) (a : Addr) : Prop := ∃ cell : Cell, h[a]? = some cell ∧ cell.vm ≠ .unknown
theorem own_K_ext {h h' : Heap} {a : Addr} (K : own_K h a) (E : Ext h h') : own_K h' a := by obtain ⟨c, h1, h2⟩ := K; exact ⟨c, E.2 _ _ h1, h2⟩
theorem own_K_wr {h h' : Heap} {a b : Addr} {sl : Nat} {v : Value} (K : own_K h b) (W : Wr h h' a sl v) : own_K h' b := by
  obtain ⟨c, h1, h2⟩ := K
  obtain ⟨c', e1, -, e3, -⟩ := wr_at W h1
  exact ⟨c', e1, by rw [e3]; exact h2⟩
theorem own_K_keep {h h' : Heap} {a : Addr} {ws : List Addr} (K : own_K h a) (E : Keep h h' ws) : own_K h' a := by
  obtain ⟨c, h1, h2⟩ := K
  obtain ⟨c', e1, -, e3, -⟩ := E.2.2 _ _ h1
  exact ⟨c', e1, by rw [e3]; exact h2⟩
theorem own_K_new {h : Heap} {a : Addr} (U : ∃ cell : Cell, h[a]? = some cell ∧ cell.vm = .none ∧ cell.monitor = {}) : own_K h a := by
  obtain ⟨c, h1, h2, -⟩ := U
  exact ⟨c, h1, by rw [h2]; simp⟩


theorem pn_0 : plainName "java/lang/Record" = true := by first | (simp [plainName, overriddenIn]; done) | decide +kernel
theorem d2_0 : decode jdk_30_method_1_code 0 = .ok (.aload_n 0, 1) := by decide +kernel
theorem d2_1 : decode jdk_30_method_1_code 1 = .ok (.invokespecial 1, 3) := by decide +kernel
theorem d2_4 : decode jdk_30_method_1_code 4 = .ok (.return_, 1) := by decide +kernel
set_option maxRecDepth 65536 in
set_option maxHeartbeats 4000000 in
theorem ef_2 (m : MethodId) (a0 : Addr) : entryFrame m #[(.ref a0)] 1 = mkF m 0 #[.val (.ref a0)] [] := by first | (simp [entryFrame, mkF, argsToLocals, Value.category]; done) | rfl
set_option maxRecDepth 65536 in
set_option maxHeartbeats 40000000 in
theorem rm2 (l : Launch) (Z : State) (aw : Array Value) (hw : ∀ d ∈ tables_1, d.before aw Z = true) {ws : List Jvm.Cond} (a0 : Addr)  (h0 : Heap) (n0 : Nat) (Z0 : n0 ≤ h0.size)  :
    own_Met l Z (⟨"java/lang/Record", "<init>", "()V"⟩ : MethodName) jdk_30_method_1_code 1 none ws ({ frames := 1, cells := 0, slots := 0, locals := 12 } : Room) #[(.ref a0)] h0 (own_Pq none h0) := by
  refine own_body (plainFor_of_name pn_0) ?_
  intro p e s m below meth c s₁ hx hZ hby hml hown hnm hret hlk X0 e0
  replace hown : s.vm.findClass "java/lang/Record" = some m.cls := hown
  replace hml : c.maxLocals = 1 := hml
  obtain ⟨P, hP⟩ : ∃ P, P = own_P below s (own_Pq none h0) ({ frames := 1, cells := 0, slots := 0, locals := 12 } : Room).cells ({ frames := 1, cells := 0, slots := 0, locals := 12 } : Room).slots := ⟨_, rfl⟩
  rw [← hP]
  refine own_cast (ef_2 m a0) ?_
  refine own_go (T' := s₁) (f' := (mkF m 1 #[.val (.ref a0)] [(.ref a0)])) (fun t kt => ?_) ?_
  · show Steps p.tables e below (s₁.setTop (mkF m 0 #[.val (.ref a0)] [])) t
    refine XS.aloadN X0.here hx rfl (hb hby d2_0) rfl rfl ?_
    show Steps p.tables e below (s₁.setTop (mkF m 1 #[.val (.ref a0)] [(.ref a0)])) t
    exact kt
  obtain ⟨T1, X1, e1, st1⟩ := initO X0 hx hZ hown (hw _ (List.mem_of_getElem? (i := 11) rfl)) (hw _ (List.mem_of_getElem? (i := 12) rfl)) (hw _ (List.mem_of_getElem? (i := 13) rfl)) e0 (g := (mkF m 1 #[.val (.ref a0)] [(.ref a0)])) rfl (by rw [hml]; rfl) rfl (hb hby d2_1) (by decide) (W := 0) (by show 2 * 0 + _ ≤ _; exact Nat.le_of_eq rfl) (by decide)
  refine own_go st1 ?_
  exact own_retV X1 hP hx hlk e1 hret (hb hby d2_4) (by decide) (by decide) ⟨rfl, rfl, rfl⟩
theorem pd_0 : parseMethodDescriptor "()V" = some ⟨[], none⟩ := by decide +kernel
theorem pn_1 : plainName "com/example/commit_log_store/commitlogstore/io/OffsetIndex$Entry" = true := by first | (simp [plainName, overriddenIn]; done) | decide +kernel
theorem d1_0 : decode prog_40_method_1_code 0 = .ok (.aload_n 0, 1) := by decide +kernel
theorem d1_1 : decode prog_40_method_1_code 1 = .ok (.invokespecial 1, 3) := by decide +kernel
theorem d1_4 : decode prog_40_method_1_code 4 = .ok (.aload_n 0, 1) := by decide +kernel
theorem d1_5 : decode prog_40_method_1_code 5 = .ok (.lload_n 1, 1) := by decide +kernel
theorem d1_6 : decode prog_40_method_1_code 6 = .ok (.putfield 7, 3) := by decide +kernel
theorem d1_9 : decode prog_40_method_1_code 9 = .ok (.aload_n 0, 1) := by decide +kernel
theorem d1_10 : decode prog_40_method_1_code 10 = .ok (.lload_n 3, 1) := by decide +kernel
theorem d1_11 : decode prog_40_method_1_code 11 = .ok (.putfield 13, 3) := by decide +kernel
theorem d1_14 : decode prog_40_method_1_code 14 = .ok (.return_, 1) := by decide +kernel
set_option maxRecDepth 65536 in
set_option maxHeartbeats 4000000 in
theorem ef_1 (m : MethodId) (a0 : Addr) (q1 : Int64) (q2 : Int64) : entryFrame m #[(.ref a0), (.long q1), (.long q2)] 5 = mkF m 0 #[.val (.ref a0), .val (.long q1), .second, .val (.long q2), .second] [] := by first | (simp [entryFrame, mkF, argsToLocals, Value.category]; done) | rfl
set_option maxRecDepth 65536 in
set_option maxHeartbeats 40000000 in
theorem rm1 (l : Launch) (Z : State) (aw : Array Value) (hw : ∀ d ∈ tables_1, d.before aw Z = true) {ws : List Jvm.Cond} (a0 : Addr) (q1 : Int64) (q2 : Int64)  (h0 : Heap) (n0 : Nat) (Z0 : n0 ≤ h0.size) (E_a0 : Exa Z h0 a0 "com/example/commit_log_store/commitlogstore/io/OffsetIndex$Entry") (K_a0 : own_K h0 a0) (g_a0 : n0 ≤ a0) :
    own_Met l Z (⟨"com/example/commit_log_store/commitlogstore/io/OffsetIndex$Entry", "<init>", "(JJ)V"⟩ : MethodName) prog_40_method_1_code 5 none ws ({ frames := 2, cells := 0, slots := 0, locals := 24 } : Room) #[(.ref a0), (.long q1), (.long q2)] h0 (fun v h L => v = none ∧ Fr n0 L ∧ Keep h0 h [a0] ∧ Exa Z h a0 "com/example/commit_log_store/commitlogstore/io/OffsetIndex$Entry" ∧ Fld Z h a0 "com/example/commit_log_store/commitlogstore/io/OffsetIndex$Entry" "offset" "J" (.long q1) ∧ Fld Z h a0 "com/example/commit_log_store/commitlogstore/io/OffsetIndex$Entry" "position" "J" (.long q2)) := by
  refine own_body (plainFor_of_name pn_1) ?_
  intro p e s m below meth c s₁ hx hZ hby hml hown hnm hret hlk X0 e0
  replace hown : s.vm.findClass "com/example/commit_log_store/commitlogstore/io/OffsetIndex$Entry" = some m.cls := hown
  replace hml : c.maxLocals = 5 := hml
  have N0 := Fr.nil n0
  have K0 := Keep.refl h0 [a0]
  obtain ⟨P, hP⟩ : ∃ P, P = own_P below s (fun v h L => v = none ∧ Fr n0 L ∧ Keep h0 h [a0] ∧ Exa Z h a0 "com/example/commit_log_store/commitlogstore/io/OffsetIndex$Entry" ∧ Fld Z h a0 "com/example/commit_log_store/commitlogstore/io/OffsetIndex$Entry" "offset" "J" (.long q1) ∧ Fld Z h a0 "com/example/commit_log_store/commitlogstore/io/OffsetIndex$Entry" "position" "J" (.long q2)) ({ frames := 2, cells := 0, slots := 0, locals := 24 } : Room).cells ({ frames := 2, cells := 0, slots := 0, locals := 24 } : Room).slots := ⟨_, rfl⟩
  rw [← hP]
  refine own_cast (ef_1 m a0 q1 q2) ?_
  refine own_go (T' := s₁) (f' := (mkF m 1 #[.val (.ref a0), .val (.long q1), .second, .val (.long q2), .second] [(.ref a0)])) (fun t kt => ?_) ?_
  · show Steps p.tables e below (s₁.setTop (mkF m 0 #[.val (.ref a0), .val (.long q1), .second, .val (.long q2), .second] [])) t
    refine XS.aloadN X0.here hx rfl (hb hby d1_0) rfl rfl ?_
    show Steps p.tables e below (s₁.setTop (mkF m 1 #[.val (.ref a0), .val (.long q1), .second, .val (.long q2), .second] [(.ref a0)])) t
    exact kt
  refine own_callCp X0 hx hZ hown e0 rfl (hw _ (List.mem_of_getElem? (i := 6) rfl)) (hw _ (List.mem_of_getElem? (i := 7) rfl)) (hw _ (List.mem_of_getElem? (i := 9) rfl)) (hw _ (List.mem_of_getElem? (i := 10) rfl)) (by decide) (rm2 l Z aw hw a0 h0 n0 Z0) (g := (mkF m 1 #[.val (.ref a0), .val (.long q1), .second, .val (.long q2), .second] [(.ref a0)])) rfl (by rw [hml]; rfl) (argsL := []) (rest := []) (lenOf pd_0 rfl) rfl rfl (W := 0) (by show 2 * 0 + _ ≤ _; exact Nat.le_of_eq rfl) (hb hby d1_1) (by decide) (by decide) (by decide) (by decide) ?_
  intro T1 X1 e1
  refine own_go (T' := T1) (f' := (mkF m 6 #[.val (.ref a0), .val (.long q1), .second, .val (.long q2), .second] [(.long q1), (.ref a0)])) (fun t kt => ?_) ?_
  · show Steps p.tables e below (T1.setTop (mkF m 4 #[.val (.ref a0), .val (.long q1), .second, .val (.long q2), .second] [])) t
    refine XS.aloadN X1.here hx rfl (hb hby d1_4) rfl rfl ?_
    show Steps p.tables e below (T1.setTop (mkF m 5 #[.val (.ref a0), .val (.long q1), .second, .val (.long q2), .second] [(.ref a0)])) t
    refine XS.lloadN X1.here hx rfl (hb hby d1_5) rfl ?_
    show Steps p.tables e below (T1.setTop (mkF m 6 #[.val (.ref a0), .val (.long q1), .second, .val (.long q2), .second] [(.long q1), (.ref a0)])) t
    exact kt
  obtain ⟨uv2, F2_offset⟩ := fld_laid E_a0 K_a0 (hw _ (List.mem_of_getElem? (i := 1) rfl)) (Or.inr (hw _ (List.mem_of_getElem? (i := 15) rfl)))
  obtain ⟨T2, h2, X2, e2, W2, st2⟩ := putF X1 hx hZ hown (host := "") (Or.inl (hw _ (List.mem_of_getElem? (i := 14) rfl))) Via.refl e1 F2_offset E_a0 (Or.inr ⟨(hw _ (List.mem_of_getElem? (i := 15) rfl)), rfl, hnm⟩) (hw _ (List.mem_of_getElem? (i := 1) rfl)) (ty := .long) (by decide) rfl rfl (g := (mkF m 6 #[.val (.ref a0), .val (.long q1), .second, .val (.long q2), .second] [(.long q1), (.ref a0)])) rfl rfl (hb hby d1_6)
  refine own_go st2 ?_
  replace E_a0 := (E_a0.wr W2)
  replace F2_offset := (F2_offset.same W2)
  replace K_a0 := own_K_wr K_a0 W2
  have N2 := Fr.snoc X2 N0 g_a0
  have Z2 : n0 ≤ h2.size := Nat.le_trans Z0 (Keep.of_wr W2).1
  have KK2 := K0.wr W2 (Or.inl (by simp))
  refine own_go (T' := T2) (f' := (mkF m 11 #[.val (.ref a0), .val (.long q1), .second, .val (.long q2), .second] [(.long q2), (.ref a0)])) (fun t kt => ?_) ?_
  · show Steps p.tables e below (T2.setTop (mkF m 9 #[.val (.ref a0), .val (.long q1), .second, .val (.long q2), .second] [])) t
    refine XS.aloadN X2.here hx rfl (hb hby d1_9) rfl rfl ?_
    show Steps p.tables e below (T2.setTop (mkF m 10 #[.val (.ref a0), .val (.long q1), .second, .val (.long q2), .second] [(.ref a0)])) t
    refine XS.lloadN X2.here hx rfl (hb hby d1_10) rfl ?_
    show Steps p.tables e below (T2.setTop (mkF m 11 #[.val (.ref a0), .val (.long q1), .second, .val (.long q2), .second] [(.long q2), (.ref a0)])) t
    exact kt
  obtain ⟨uv3, F3_position⟩ := fld_laid E_a0 K_a0 (hw _ (List.mem_of_getElem? (i := 1) rfl)) (Or.inr (hw _ (List.mem_of_getElem? (i := 17) rfl)))
  obtain ⟨T3, h3, X3, e3, W3, st3⟩ := putF X2 hx hZ hown (host := "") (Or.inl (hw _ (List.mem_of_getElem? (i := 16) rfl))) Via.refl e2 F3_position E_a0 (Or.inr ⟨(hw _ (List.mem_of_getElem? (i := 17) rfl)), rfl, hnm⟩) (hw _ (List.mem_of_getElem? (i := 1) rfl)) (ty := .long) (by decide) rfl rfl (g := (mkF m 11 #[.val (.ref a0), .val (.long q1), .second, .val (.long q2), .second] [(.long q2), (.ref a0)])) rfl rfl (hb hby d1_11)
  refine own_go st3 ?_
  replace E_a0 := (E_a0.wr W3)
  replace F2_offset := (F2_offset.other W3 (Or.inr (slot_ne (Or.inr (hw _ (List.mem_of_getElem? (i := 15) rfl))) (Or.inr (hw _ (List.mem_of_getElem? (i := 17) rfl))) (by decide) (t := .long) (t' := .long) (by decide) (by decide))))
  replace F3_position := (F3_position.same W3)
  replace K_a0 := own_K_wr K_a0 W3
  have N3 := Fr.snoc X3 N2 g_a0
  have Z3 : n0 ≤ h3.size := Nat.le_trans Z2 (Keep.of_wr W3).1
  have KK3 := KK2.wr W3 (Or.inl (by simp))
  exact own_retV X3 hP hx hlk e3 hret (hb hby d1_14) (by decide) (by decide) ⟨rfl, N3, KK3, E_a0, F2_offset, F3_position⟩
theorem d4_0 : decode prog_40_method_3_code 0 = .ok (.aload_n 0, 1) := by decide +kernel
theorem d4_1 : decode prog_40_method_3_code 1 = .ok (.getfield 7, 3) := by decide +kernel
theorem d4_4 : decode prog_40_method_3_code 4 = .ok (.aload_n 1, 1) := by decide +kernel
theorem d4_5 : decode prog_40_method_3_code 5 = .ok (.getfield 7, 3) := by decide +kernel
theorem d4_8 : decode prog_40_method_3_code 8 = .ok (.lcmp, 1) := by decide +kernel
theorem d4_9 : decode prog_40_method_3_code 9 = .ok (.ifCond .le 19, 3) := by decide +kernel
theorem d4_12 : decode prog_40_method_3_code 12 = .ok (.aload_n 0, 1) := by decide +kernel
theorem d4_13 : decode prog_40_method_3_code 13 = .ok (.getfield 13, 3) := by decide +kernel
theorem d4_16 : decode prog_40_method_3_code 16 = .ok (.aload_n 1, 1) := by decide +kernel
theorem d4_17 : decode prog_40_method_3_code 17 = .ok (.getfield 13, 3) := by decide +kernel
theorem d4_20 : decode prog_40_method_3_code 20 = .ok (.lcmp, 1) := by decide +kernel
theorem d4_21 : decode prog_40_method_3_code 21 = .ok (.ifCond .le 7, 3) := by decide +kernel
theorem d4_24 : decode prog_40_method_3_code 24 = .ok (.iconst 1, 1) := by decide +kernel
theorem d4_25 : decode prog_40_method_3_code 25 = .ok (.goto 4, 3) := by decide +kernel
theorem d4_28 : decode prog_40_method_3_code 28 = .ok (.iconst 0, 1) := by decide +kernel
theorem d4_29 : decode prog_40_method_3_code 29 = .ok (.ireturn, 1) := by decide +kernel
set_option maxRecDepth 65536 in
set_option maxHeartbeats 4000000 in
theorem ef_4 (m : MethodId) (a0 : Addr) (a1 : Addr) : entryFrame m #[(.ref a0), (.ref a1)] 2 = mkF m 0 #[.val (.ref a0), .val (.ref a1)] [] := by first | (simp [entryFrame, mkF, argsToLocals, Value.category]; done) | rfl
set_option maxRecDepth 65536 in
set_option maxHeartbeats 40000000 in
theorem rm4 (l : Launch) (Z : State) (aw : Array Value) (hw : ∀ d ∈ tables_1, d.before aw Z = true) {ws : List Jvm.Cond} (a0 : Addr) (a1 : Addr) (w0 : Int64) (w1 : Int64) (w2 : Int64) (w3 : Int64) (h0 : Heap) (n0 : Nat) (Z0 : n0 ≤ h0.size) (F_a0_offset : Fld Z h0 a0 "com/example/commit_log_store/commitlogstore/io/OffsetIndex$Entry" "offset" "J" (.long w0)) (F_a0_position : Fld Z h0 a0 "com/example/commit_log_store/commitlogstore/io/OffsetIndex$Entry" "position" "J" (.long w1)) (F_a1_offset : Fld Z h0 a1 "com/example/commit_log_store/commitlogstore/io/OffsetIndex$Entry" "offset" "J" (.long w2)) (F_a1_position : Fld Z h0 a1 "com/example/commit_log_store/commitlogstore/io/OffsetIndex$Entry" "position" "J" (.long w3)) :
    own_Met l Z (⟨"com/example/commit_log_store/commitlogstore/io/OffsetIndex$Entry", "risesPast", "(Lcom/example/commit_log_store/commitlogstore/io/OffsetIndex$Entry;)Z"⟩ : MethodName) prog_40_method_3_code 2 (some .boolean) ws ({ frames := 0, cells := 0, slots := 0, locals := 0 } : Room) #[(.ref a0), (.ref a1)] h0 (own_Pq (some (.int (own_z (w2 < w0 ∧ w3 < w1)))) h0) := by
  refine own_body (plainFor_of_name pn_1) ?_
  intro p e s m below meth c s₁ hx hZ hby hml hown hnm hret hlk X0 e0
  replace hown : s.vm.findClass "com/example/commit_log_store/commitlogstore/io/OffsetIndex$Entry" = some m.cls := hown
  replace hml : c.maxLocals = 2 := hml
  obtain ⟨P, hP⟩ : ∃ P, P = own_P below s (own_Pq (some (.int (own_z (w2 < w0 ∧ w3 < w1)))) h0) ({ frames := 0, cells := 0, slots := 0, locals := 0 } : Room).cells ({ frames := 0, cells := 0, slots := 0, locals := 0 } : Room).slots := ⟨_, rfl⟩
  rw [← hP]
  refine own_cast (ef_4 m a0 a1) ?_
  refine own_go (T' := s₁) (f' := (mkF m 1 #[.val (.ref a0), .val (.ref a1)] [(.ref a0)])) (fun t kt => ?_) ?_
  · show Steps p.tables e below (s₁.setTop (mkF m 0 #[.val (.ref a0), .val (.ref a1)] [])) t
    refine XS.aloadN X0.here hx rfl (hb hby d4_0) rfl rfl ?_
    show Steps p.tables e below (s₁.setTop (mkF m 1 #[.val (.ref a0), .val (.ref a1)] [(.ref a0)])) t
    exact kt
  obtain ⟨T1, X1, e1, st1⟩ := getF X0 hx hZ hown (host := "") (Or.inl (hw _ (List.mem_of_getElem? (i := 14) rfl))) Via.refl e0 F_a0_offset (g := (mkF m 1 #[.val (.ref a0), .val (.ref a1)] [(.ref a0)])) rfl rfl (hb hby d4_1)
  refine own_go st1 ?_
  refine own_go (T' := T1) (f' := (mkF m 5 #[.val (.ref a0), .val (.ref a1)] [(.ref a1), (.long w0)])) (fun t kt => ?_) ?_
  · show Steps p.tables e below (T1.setTop (mkF m 4 #[.val (.ref a0), .val (.ref a1)] [(.long w0)])) t
    refine XS.aloadN X1.here hx rfl (hb hby d4_4) rfl rfl ?_
    show Steps p.tables e below (T1.setTop (mkF m 5 #[.val (.ref a0), .val (.ref a1)] [(.ref a1), (.long w0)])) t
    exact kt
  obtain ⟨T2, X2, e2, st2⟩ := getF X1 hx hZ hown (host := "") (Or.inl (hw _ (List.mem_of_getElem? (i := 14) rfl))) Via.refl e1 F_a1_offset (g := (mkF m 5 #[.val (.ref a0), .val (.ref a1)] [(.ref a1), (.long w0)])) rfl rfl (hb hby d4_5)
  refine own_go st2 ?_
  refine own_go (T' := T2) (f' := (mkF m 9 #[.val (.ref a0), .val (.ref a1)] [(.int (lcmpW w0 w2))])) (fun t kt => ?_) ?_
  · show Steps p.tables e below (T2.setTop (mkF m 8 #[.val (.ref a0), .val (.ref a1)] [(.long w2), (.long w0)])) t
    refine XS.lcmp X2.here hx rfl (hb hby d4_8) rfl ?_
    show Steps p.tables e below (T2.setTop (mkF m 9 #[.val (.ref a0), .val (.ref a1)] [(.int (lcmpW w0 w2))])) t
    exact kt
  by_cases hc9_3 : w2 < w0
  · refine own_go (T' := T2) (f' := (mkF m 13 #[.val (.ref a0), .val (.ref a1)] [(.ref a0)])) (fun t kt => ?_) ?_
    · show Steps p.tables e below (T2.setTop (mkF m 9 #[.val (.ref a0), .val (.ref a1)] [(.int (lcmpW w0 w2))])) t
      refine XS.ifNo X2.here hx rfl (hb hby d4_9) rfl (own_lN_le hc9_3) ?_
      show Steps p.tables e below (T2.setTop (mkF m 12 #[.val (.ref a0), .val (.ref a1)] [])) t
      refine XS.aloadN X2.here hx rfl (hb hby d4_12) rfl rfl ?_
      show Steps p.tables e below (T2.setTop (mkF m 13 #[.val (.ref a0), .val (.ref a1)] [(.ref a0)])) t
      exact kt
    obtain ⟨T4, X4, e4, st4⟩ := getF X2 hx hZ hown (host := "") (Or.inl (hw _ (List.mem_of_getElem? (i := 16) rfl))) Via.refl e2 F_a0_position (g := (mkF m 13 #[.val (.ref a0), .val (.ref a1)] [(.ref a0)])) rfl rfl (hb hby d4_13)
    refine own_go st4 ?_
    refine own_go (T' := T4) (f' := (mkF m 17 #[.val (.ref a0), .val (.ref a1)] [(.ref a1), (.long w1)])) (fun t kt => ?_) ?_
    · show Steps p.tables e below (T4.setTop (mkF m 16 #[.val (.ref a0), .val (.ref a1)] [(.long w1)])) t
      refine XS.aloadN X4.here hx rfl (hb hby d4_16) rfl rfl ?_
      show Steps p.tables e below (T4.setTop (mkF m 17 #[.val (.ref a0), .val (.ref a1)] [(.ref a1), (.long w1)])) t
      exact kt
    obtain ⟨T5, X5, e5, st5⟩ := getF X4 hx hZ hown (host := "") (Or.inl (hw _ (List.mem_of_getElem? (i := 16) rfl))) Via.refl e4 F_a1_position (g := (mkF m 17 #[.val (.ref a0), .val (.ref a1)] [(.ref a1), (.long w1)])) rfl rfl (hb hby d4_17)
    refine own_go st5 ?_
    refine own_go (T' := T5) (f' := (mkF m 21 #[.val (.ref a0), .val (.ref a1)] [(.int (lcmpW w1 w3))])) (fun t kt => ?_) ?_
    · show Steps p.tables e below (T5.setTop (mkF m 20 #[.val (.ref a0), .val (.ref a1)] [(.long w3), (.long w1)])) t
      refine XS.lcmp X5.here hx rfl (hb hby d4_20) rfl ?_
      show Steps p.tables e below (T5.setTop (mkF m 21 #[.val (.ref a0), .val (.ref a1)] [(.int (lcmpW w1 w3))])) t
      exact kt
    by_cases hc21_6 : w3 < w1
    · refine own_go (T' := T5) (f' := (mkF m 29 #[.val (.ref a0), .val (.ref a1)] [(.int (1 : Int32))])) (fun t kt => ?_) ?_
      · show Steps p.tables e below (T5.setTop (mkF m 21 #[.val (.ref a0), .val (.ref a1)] [(.int (lcmpW w1 w3))])) t
        refine XS.ifNo X5.here hx rfl (hb hby d4_21) rfl (own_lN_le hc21_6) ?_
        show Steps p.tables e below (T5.setTop (mkF m 24 #[.val (.ref a0), .val (.ref a1)] [])) t
        refine XS.iconst X5.here hx rfl (hb hby d4_24) ?_
        show Steps p.tables e below (T5.setTop (mkF m 25 #[.val (.ref a0), .val (.ref a1)] [(.int (1 : Int32))])) t
        refine XS.goto X5.here hx rfl (pc0 := 25) (pc' := 29) rfl (hb hby d4_25) (by decide) (by decide) ?_
        show Steps p.tables e below (T5.setTop (mkF m 29 #[.val (.ref a0), .val (.ref a1)] [(.int (1 : Int32))])) t
        exact kt
      exact own_retN X5 hP hx hlk e5 (t := .boolean) hret (by simp) (hb hby d4_29) (by decide) (by decide) (z' := (1 : Int32)) (by decide) ⟨(congrArg (fun w => some (Value.int w)) (own_z_t (by simp [hc9_3, hc21_6])).symm), rfl, rfl⟩
    · refine own_go (T' := T5) (f' := (mkF m 29 #[.val (.ref a0), .val (.ref a1)] [(.int (0 : Int32))])) (fun t kt => ?_) ?_
      · show Steps p.tables e below (T5.setTop (mkF m 21 #[.val (.ref a0), .val (.ref a1)] [(.int (lcmpW w1 w3))])) t
        refine XS.ifYes X5.here hx rfl (pc0 := 21) (pc' := 28) rfl (hb hby d4_21) rfl (own_lY_le hc21_6) (by decide) (by decide) ?_
        show Steps p.tables e below (T5.setTop (mkF m 28 #[.val (.ref a0), .val (.ref a1)] [])) t
        refine XS.iconst X5.here hx rfl (hb hby d4_28) ?_
        show Steps p.tables e below (T5.setTop (mkF m 29 #[.val (.ref a0), .val (.ref a1)] [(.int (0 : Int32))])) t
        exact kt
      exact own_retN X5 hP hx hlk e5 (t := .boolean) hret (by simp) (hb hby d4_29) (by decide) (by decide) (z' := (0 : Int32)) (by decide) ⟨(congrArg (fun w => some (Value.int w)) (own_z_f (by simp [hc9_3, hc21_6])).symm), rfl, rfl⟩
  · refine own_go (T' := T2) (f' := (mkF m 29 #[.val (.ref a0), .val (.ref a1)] [(.int (0 : Int32))])) (fun t kt => ?_) ?_
    · show Steps p.tables e below (T2.setTop (mkF m 9 #[.val (.ref a0), .val (.ref a1)] [(.int (lcmpW w0 w2))])) t
      refine XS.ifYes X2.here hx rfl (pc0 := 9) (pc' := 28) rfl (hb hby d4_9) rfl (own_lY_le hc9_3) (by decide) (by decide) ?_
      show Steps p.tables e below (T2.setTop (mkF m 28 #[.val (.ref a0), .val (.ref a1)] [])) t
      refine XS.iconst X2.here hx rfl (hb hby d4_28) ?_
      show Steps p.tables e below (T2.setTop (mkF m 29 #[.val (.ref a0), .val (.ref a1)] [(.int (0 : Int32))])) t
      exact kt
    exact own_retN X2 hP hx hlk e2 (t := .boolean) hret (by simp) (hb hby d4_29) (by decide) (by decide) (z' := (0 : Int32)) (by decide) ⟨(congrArg (fun w => some (Value.int w)) (own_z_f (by simp [hc9_3])).symm), rfl, rfl⟩
theorem pn_2 : plainName "com/example/commit_log_store/commitlogstore/io/EntryRisesPastPinLaw" = true := by first | (simp [plainName, overriddenIn]; done) | decide +kernel
theorem d5_0 : decode method_2_code 0 = .ok (.lload_n 0, 1) := by decide +kernel
theorem d5_1 : decode method_2_code 1 = .ok (.lload 4, 2) := by decide +kernel
theorem d5_3 : decode method_2_code 3 = .ok (.lcmp, 1) := by decide +kernel
theorem d5_4 : decode method_2_code 4 = .ok (.ifCond .gt 5, 3) := by decide +kernel
theorem d5_7 : decode method_2_code 7 = .ok (.iconst 0, 1) := by decide +kernel
theorem d5_8 : decode method_2_code 8 = .ok (.ireturn, 1) := by decide +kernel
theorem d5_9 : decode method_2_code 9 = .ok (.lload_n 2, 1) := by decide +kernel
theorem d5_10 : decode method_2_code 10 = .ok (.lload 6, 2) := by decide +kernel
theorem d5_12 : decode method_2_code 12 = .ok (.lcmp, 1) := by decide +kernel
theorem d5_13 : decode method_2_code 13 = .ok (.ifCond .gt 5, 3) := by decide +kernel
theorem d5_16 : decode method_2_code 16 = .ok (.iconst 0, 1) := by decide +kernel
theorem d5_17 : decode method_2_code 17 = .ok (.ireturn, 1) := by decide +kernel
theorem d5_18 : decode method_2_code 18 = .ok (.iconst 1, 1) := by decide +kernel
theorem d5_19 : decode method_2_code 19 = .ok (.ireturn, 1) := by decide +kernel
set_option maxRecDepth 65536 in
set_option maxHeartbeats 4000000 in
theorem ef_5 (m : MethodId) (q0 : Int64) (q1 : Int64) (q2 : Int64) (q3 : Int64) : entryFrame m #[(.long q0), (.long q1), (.long q2), (.long q3)] 8 = mkF m 0 #[.val (.long q0), .second, .val (.long q1), .second, .val (.long q2), .second, .val (.long q3), .second] [] := by first | (simp [entryFrame, mkF, argsToLocals, Value.category]; done) | rfl
set_option maxRecDepth 65536 in
set_option maxHeartbeats 40000000 in
theorem rm5 (l : Launch) (Z : State) (aw : Array Value) (hw : ∀ d ∈ tables_1, d.before aw Z = true) {ws : List Jvm.Cond} (q0 : Int64) (q1 : Int64) (q2 : Int64) (q3 : Int64)  (h0 : Heap) (n0 : Nat) (Z0 : n0 ≤ h0.size)  :
    own_Met l Z (⟨"com/example/commit_log_store/commitlogstore/io/EntryRisesPastPinLaw", "strictlyAbove", "(JJJJ)Z"⟩ : MethodName) method_2_code 8 (some .boolean) ws ({ frames := 0, cells := 0, slots := 0, locals := 0 } : Room) #[(.long q0), (.long q1), (.long q2), (.long q3)] h0 (own_Pq (some (.int (own_z (q2 < q0 ∧ q3 < q1)))) h0) := by
  refine own_body (plainFor_of_name pn_2) ?_
  intro p e s m below meth c s₁ hx hZ hby hml hown hnm hret hlk X0 e0
  replace hown : s.vm.findClass "com/example/commit_log_store/commitlogstore/io/EntryRisesPastPinLaw" = some m.cls := hown
  replace hml : c.maxLocals = 8 := hml
  obtain ⟨P, hP⟩ : ∃ P, P = own_P below s (own_Pq (some (.int (own_z (q2 < q0 ∧ q3 < q1)))) h0) ({ frames := 0, cells := 0, slots := 0, locals := 0 } : Room).cells ({ frames := 0, cells := 0, slots := 0, locals := 0 } : Room).slots := ⟨_, rfl⟩
  rw [← hP]
  refine own_cast (ef_5 m q0 q1 q2 q3) ?_
  refine own_go (T' := s₁) (f' := (mkF m 4 #[.val (.long q0), .second, .val (.long q1), .second, .val (.long q2), .second, .val (.long q3), .second] [(.int (lcmpW q0 q2))])) (fun t kt => ?_) ?_
  · show Steps p.tables e below (s₁.setTop (mkF m 0 #[.val (.long q0), .second, .val (.long q1), .second, .val (.long q2), .second, .val (.long q3), .second] [])) t
    refine XS.lloadN X0.here hx rfl (hb hby d5_0) rfl ?_
    show Steps p.tables e below (s₁.setTop (mkF m 1 #[.val (.long q0), .second, .val (.long q1), .second, .val (.long q2), .second, .val (.long q3), .second] [(.long q0)])) t
    refine XS.lload X0.here hx rfl (hb hby d5_1) rfl ?_
    show Steps p.tables e below (s₁.setTop (mkF m 3 #[.val (.long q0), .second, .val (.long q1), .second, .val (.long q2), .second, .val (.long q3), .second] [(.long q2), (.long q0)])) t
    refine XS.lcmp X0.here hx rfl (hb hby d5_3) rfl ?_
    show Steps p.tables e below (s₁.setTop (mkF m 4 #[.val (.long q0), .second, .val (.long q1), .second, .val (.long q2), .second, .val (.long q3), .second] [(.int (lcmpW q0 q2))])) t
    exact kt
  by_cases hc4_1 : q2 < q0
  · refine own_go (T' := s₁) (f' := (mkF m 13 #[.val (.long q0), .second, .val (.long q1), .second, .val (.long q2), .second, .val (.long q3), .second] [(.int (lcmpW q1 q3))])) (fun t kt => ?_) ?_
    · show Steps p.tables e below (s₁.setTop (mkF m 4 #[.val (.long q0), .second, .val (.long q1), .second, .val (.long q2), .second, .val (.long q3), .second] [(.int (lcmpW q0 q2))])) t
      refine XS.ifYes X0.here hx rfl (pc0 := 4) (pc' := 9) rfl (hb hby d5_4) rfl (own_lY_gt hc4_1) (by decide) (by decide) ?_
      show Steps p.tables e below (s₁.setTop (mkF m 9 #[.val (.long q0), .second, .val (.long q1), .second, .val (.long q2), .second, .val (.long q3), .second] [])) t
      refine XS.lloadN X0.here hx rfl (hb hby d5_9) rfl ?_
      show Steps p.tables e below (s₁.setTop (mkF m 10 #[.val (.long q0), .second, .val (.long q1), .second, .val (.long q2), .second, .val (.long q3), .second] [(.long q1)])) t
      refine XS.lload X0.here hx rfl (hb hby d5_10) rfl ?_
      show Steps p.tables e below (s₁.setTop (mkF m 12 #[.val (.long q0), .second, .val (.long q1), .second, .val (.long q2), .second, .val (.long q3), .second] [(.long q3), (.long q1)])) t
      refine XS.lcmp X0.here hx rfl (hb hby d5_12) rfl ?_
      show Steps p.tables e below (s₁.setTop (mkF m 13 #[.val (.long q0), .second, .val (.long q1), .second, .val (.long q2), .second, .val (.long q3), .second] [(.int (lcmpW q1 q3))])) t
      exact kt
    by_cases hc13_2 : q3 < q1
    · refine own_go (T' := s₁) (f' := (mkF m 19 #[.val (.long q0), .second, .val (.long q1), .second, .val (.long q2), .second, .val (.long q3), .second] [(.int (1 : Int32))])) (fun t kt => ?_) ?_
      · show Steps p.tables e below (s₁.setTop (mkF m 13 #[.val (.long q0), .second, .val (.long q1), .second, .val (.long q2), .second, .val (.long q3), .second] [(.int (lcmpW q1 q3))])) t
        refine XS.ifYes X0.here hx rfl (pc0 := 13) (pc' := 18) rfl (hb hby d5_13) rfl (own_lY_gt hc13_2) (by decide) (by decide) ?_
        show Steps p.tables e below (s₁.setTop (mkF m 18 #[.val (.long q0), .second, .val (.long q1), .second, .val (.long q2), .second, .val (.long q3), .second] [])) t
        refine XS.iconst X0.here hx rfl (hb hby d5_18) ?_
        show Steps p.tables e below (s₁.setTop (mkF m 19 #[.val (.long q0), .second, .val (.long q1), .second, .val (.long q2), .second, .val (.long q3), .second] [(.int (1 : Int32))])) t
        exact kt
      exact own_retN X0 hP hx hlk e0 (t := .boolean) hret (by simp) (hb hby d5_19) (by decide) (by decide) (z' := (1 : Int32)) (by decide) ⟨(congrArg (fun w => some (Value.int w)) (own_z_t (by simp [hc4_1, hc13_2])).symm), rfl, rfl⟩
    · refine own_go (T' := s₁) (f' := (mkF m 17 #[.val (.long q0), .second, .val (.long q1), .second, .val (.long q2), .second, .val (.long q3), .second] [(.int (0 : Int32))])) (fun t kt => ?_) ?_
      · show Steps p.tables e below (s₁.setTop (mkF m 13 #[.val (.long q0), .second, .val (.long q1), .second, .val (.long q2), .second, .val (.long q3), .second] [(.int (lcmpW q1 q3))])) t
        refine XS.ifNo X0.here hx rfl (hb hby d5_13) rfl (own_lN_gt hc13_2) ?_
        show Steps p.tables e below (s₁.setTop (mkF m 16 #[.val (.long q0), .second, .val (.long q1), .second, .val (.long q2), .second, .val (.long q3), .second] [])) t
        refine XS.iconst X0.here hx rfl (hb hby d5_16) ?_
        show Steps p.tables e below (s₁.setTop (mkF m 17 #[.val (.long q0), .second, .val (.long q1), .second, .val (.long q2), .second, .val (.long q3), .second] [(.int (0 : Int32))])) t
        exact kt
      exact own_retN X0 hP hx hlk e0 (t := .boolean) hret (by simp) (hb hby d5_17) (by decide) (by decide) (z' := (0 : Int32)) (by decide) ⟨(congrArg (fun w => some (Value.int w)) (own_z_f (by simp [hc4_1, hc13_2])).symm), rfl, rfl⟩
  · refine own_go (T' := s₁) (f' := (mkF m 8 #[.val (.long q0), .second, .val (.long q1), .second, .val (.long q2), .second, .val (.long q3), .second] [(.int (0 : Int32))])) (fun t kt => ?_) ?_
    · show Steps p.tables e below (s₁.setTop (mkF m 4 #[.val (.long q0), .second, .val (.long q1), .second, .val (.long q2), .second, .val (.long q3), .second] [(.int (lcmpW q0 q2))])) t
      refine XS.ifNo X0.here hx rfl (hb hby d5_4) rfl (own_lN_gt hc4_1) ?_
      show Steps p.tables e below (s₁.setTop (mkF m 7 #[.val (.long q0), .second, .val (.long q1), .second, .val (.long q2), .second, .val (.long q3), .second] [])) t
      refine XS.iconst X0.here hx rfl (hb hby d5_7) ?_
      show Steps p.tables e below (s₁.setTop (mkF m 8 #[.val (.long q0), .second, .val (.long q1), .second, .val (.long q2), .second, .val (.long q3), .second] [(.int (0 : Int32))])) t
      exact kt
    exact own_retN X0 hP hx hlk e0 (t := .boolean) hret (by simp) (hb hby d5_8) (by decide) (by decide) (z' := (0 : Int32)) (by decide) ⟨(congrArg (fun w => some (Value.int w)) (own_z_f (by simp [hc4_1])).symm), rfl, rfl⟩
theorem pd_1 : parseMethodDescriptor "(JJ)V" = some ⟨[.long, .long], none⟩ := by decide +kernel
theorem pd_2 : parseMethodDescriptor "(Lcom/example/commit_log_store/commitlogstore/io/OffsetIndex$Entry;)Z" = some ⟨[(.object "com/example/commit_log_store/commitlogstore/io/OffsetIndex$Entry")], some .boolean⟩ := by decide +kernel
theorem pd_3 : parseMethodDescriptor "(JJJJ)Z" = some ⟨[.long, .long, .long, .long], some .boolean⟩ := by decide +kernel
set_option maxRecDepth 65536 in
set_option maxHeartbeats 4000000 in
theorem ef_0 (m : MethodId) (q0 : Int64) (q1 : Int64) (q2 : Int64) (q3 : Int64) : entryFrame m #[(.long q0), (.long q1), (.long q2), (.long q3)] maxLocals = mkF m 0 #[.val (.long q0), .second, .val (.long q1), .second, .val (.long q2), .second, .val (.long q3), .second, .unset, .unset, .unset, .unset, .unset, .unset, .unset, .unset, .unset, .unset] [] := by first | (simp [entryFrame, mkF, argsToLocals, Value.category, maxLocals]; done) | rfl
set_option maxRecDepth 65536 in
set_option maxHeartbeats 40000000 in
theorem rm0 (l : Launch) (Z : State) (aw : Array Value) (hw : ∀ d ∈ tables_1, d.before aw Z = true) {ws : List Jvm.Cond} (q0 : Int64) (q1 : Int64) (q2 : Int64) (q3 : Int64)  (h0 : Heap) (n0 : Nat) (Z0 : n0 ≤ h0.size)  :
    own_Met l Z x code maxLocals ret ws room_1 #[(.long q0), (.long q1), (.long q2), (.long q3)] h0 (fun v h L => v = some (.int 1) ∧ Fr n0 L) := by
  refine own_body (plainFor_of_name pn_2) ?_
  intro p e s m below meth c s₁ hx hZ hby hml hown hnm hret hlk X0 e0
  replace hown : s.vm.findClass "com/example/commit_log_store/commitlogstore/io/EntryRisesPastPinLaw" = some m.cls := hown
  replace hml : c.maxLocals = 18 := hml
  have N0 := Fr.nil n0
  have K0 := Keep.refl h0 []
  obtain ⟨P, hP⟩ : ∃ P, P = own_P below s (fun v h L => v = some (.int 1) ∧ Fr n0 L) room_1.cells room_1.slots := ⟨_, rfl⟩
  rw [← hP]
  refine own_cast (ef_0 m q0 q1 q2 q3) ?_
  obtain ⟨T1, h1, X1, e1, E1, A1, D1, U1, st1⟩ := newO X0 hx hZ hown (hw _ (List.mem_of_getElem? (i := 0) rfl)) (hw _ (List.mem_of_getElem? (i := 1) rfl)) (hw _ (List.mem_of_getElem? (i := 2) rfl)) e0 (g := (mkF m 0 #[.val (.long q0), .second, .val (.long q1), .second, .val (.long q2), .second, .val (.long q3), .second, .unset, .unset, .unset, .unset, .unset, .unset, .unset, .unset, .unset, .unset] [])) rfl (hb hby at_0) (by decide) (by decide)
  obtain ⟨b1, y1⟩ : ∃ z, z = h0.size := ⟨_, rfl⟩
  rw [← y1] at A1 D1 U1 st1
  have g_b1 : n0 ≤ b1 := Nat.le_trans Z0 (Nat.le_of_eq y1.symm)
  have sz_b1 : h0.size ≤ b1 := Nat.le_trans K0.1 (Nat.le_of_eq y1.symm)
  have ZE1 : n0 ≤ h1.size := Nat.le_trans Z0 E1.1
  have KKE1 := K0.ext E1
  refine own_go st1 ?_
  have K_b1 := own_K_new U1
  refine own_go (T' := T1) (f' := (mkF m 6 #[.val (.long q0), .second, .val (.long q1), .second, .val (.long q2), .second, .val (.long q3), .second, .unset, .unset, .unset, .unset, .unset, .unset, .unset, .unset, .unset, .unset] [(.long q1), (.long q0), (.ref b1), (.ref b1)])) (fun t kt => ?_) ?_
  · show Steps p.tables e below (T1.setTop (mkF m 3 #[.val (.long q0), .second, .val (.long q1), .second, .val (.long q2), .second, .val (.long q3), .second, .unset, .unset, .unset, .unset, .unset, .unset, .unset, .unset, .unset, .unset] [(.ref b1)])) t
    refine XS.dup X1.here hx rfl (hb hby at_3) rfl rfl ?_
    show Steps p.tables e below (T1.setTop (mkF m 4 #[.val (.long q0), .second, .val (.long q1), .second, .val (.long q2), .second, .val (.long q3), .second, .unset, .unset, .unset, .unset, .unset, .unset, .unset, .unset, .unset, .unset] [(.ref b1), (.ref b1)])) t
    refine XS.lloadN X1.here hx rfl (hb hby at_4) rfl ?_
    show Steps p.tables e below (T1.setTop (mkF m 5 #[.val (.long q0), .second, .val (.long q1), .second, .val (.long q2), .second, .val (.long q3), .second, .unset, .unset, .unset, .unset, .unset, .unset, .unset, .unset, .unset, .unset] [(.long q0), (.ref b1), (.ref b1)])) t
    refine XS.lloadN X1.here hx rfl (hb hby at_5) rfl ?_
    show Steps p.tables e below (T1.setTop (mkF m 6 #[.val (.long q0), .second, .val (.long q1), .second, .val (.long q2), .second, .val (.long q3), .second, .unset, .unset, .unset, .unset, .unset, .unset, .unset, .unset, .unset, .unset] [(.long q1), (.long q0), (.ref b1), (.ref b1)])) t
    exact kt
  refine own_callC X1 hx hZ hown e1 rfl (hw _ (List.mem_of_getElem? (i := 3) rfl)) (hw _ (List.mem_of_getElem? (i := 4) rfl)) (hw _ (List.mem_of_getElem? (i := 2) rfl)) (hw _ (List.mem_of_getElem? (i := 5) rfl)) (by decide) (rm1 l Z aw hw b1 q0 q1 h1 n0 ZE1 A1 K_b1 g_b1) (g := (mkF m 6 #[.val (.long q0), .second, .val (.long q1), .second, .val (.long q2), .second, .val (.long q3), .second, .unset, .unset, .unset, .unset, .unset, .unset, .unset, .unset, .unset, .unset] [(.long q1), (.long q0), (.ref b1), (.ref b1)])) rfl (by rw [hml]; rfl) (argsL := [(.long q0), (.long q1)]) (rest := [(.ref b1)]) (lenOf pd_1 rfl) rfl rfl (W := 1) (by show 2 * 0 + _ ≤ _; exact Nat.le_of_eq rfl) (hb hby at_6) (by decide) (by decide) (by decide) (by decide) ?_
  rintro _ T2 L2 X2 ⟨rfl, Nq2, Kq2, Pq2_0, Pq2_1, Pq2_2⟩
  have N2 := Fr.app N0 Nq2
  replace A1 := (A1.keep Kq2)
  replace K_b1 := own_K_keep K_b1 Kq2
  have ZKq2 : n0 ≤ T2.heap.size := Nat.le_trans ZE1 Kq2.1
  have KKKq2 := KKE1.trans Kq2 ((allS (Or.inr sz_b1) all0))
  refine own_go (T' := T2) (f' := (mkF m 11 #[.val (.long q0), .second, .val (.long q1), .second, .val (.long q2), .second, .val (.long q3), .second, .val (.ref b1), .unset, .unset, .unset, .unset, .unset, .unset, .unset, .unset, .unset] [])) (fun t kt => ?_) ?_
  · show Steps p.tables e below (T2.setTop (mkF m 9 #[.val (.long q0), .second, .val (.long q1), .second, .val (.long q2), .second, .val (.long q3), .second, .unset, .unset, .unset, .unset, .unset, .unset, .unset, .unset, .unset, .unset] [(.ref b1)])) t
    refine XS.astore X2.here hx rfl (hb hby at_9) rfl rfl (l' := #[.val (.long q0), .second, .val (.long q1), .second, .val (.long q2), .second, .val (.long q3), .second, .val (.ref b1), .unset, .unset, .unset, .unset, .unset, .unset, .unset, .unset, .unset]) rfl ?_
    show Steps p.tables e below (T2.setTop (mkF m 11 #[.val (.long q0), .second, .val (.long q1), .second, .val (.long q2), .second, .val (.long q3), .second, .val (.ref b1), .unset, .unset, .unset, .unset, .unset, .unset, .unset, .unset, .unset] [])) t
    exact kt
  obtain ⟨T3, h3, X3, e3, E3, A3, D3, U3, st3⟩ := newO X2 hx hZ hown (hw _ (List.mem_of_getElem? (i := 0) rfl)) (hw _ (List.mem_of_getElem? (i := 1) rfl)) (hw _ (List.mem_of_getElem? (i := 2) rfl)) rfl (g := (mkF m 11 #[.val (.long q0), .second, .val (.long q1), .second, .val (.long q2), .second, .val (.long q3), .second, .val (.ref b1), .unset, .unset, .unset, .unset, .unset, .unset, .unset, .unset, .unset] [])) rfl (hb hby at_11) (by decide) (by decide)
  obtain ⟨b3, y3⟩ : ∃ z, z = T2.heap.size := ⟨_, rfl⟩
  rw [← y3] at A3 D3 U3 st3
  have ne_b1_b3 : b1 ≠ b3 := Nat.ne_of_lt (Nat.lt_of_lt_of_le Pq2_0.lt (Nat.le_of_eq y3.symm))
  have ne_b3_b1 := ne_b1_b3.symm
  have g_b3 : n0 ≤ b3 := Nat.le_trans ZKq2 (Nat.le_of_eq y3.symm)
  have sz_b3 : h0.size ≤ b3 := Nat.le_trans KKKq2.1 (Nat.le_of_eq y3.symm)
  replace Pq2_0 := (Pq2_0.ext E3)
  replace Pq2_1 := (Pq2_1.ext E3)
  replace Pq2_2 := (Pq2_2.ext E3)
  have ZE3 : n0 ≤ h3.size := Nat.le_trans ZKq2 E3.1
  have KKE3 := KKKq2.ext E3
  refine own_go st3 ?_
  have K_b3 := own_K_new U3
  refine own_go (T' := T3) (f' := (mkF m 19 #[.val (.long q0), .second, .val (.long q1), .second, .val (.long q2), .second, .val (.long q3), .second, .val (.ref b1), .unset, .unset, .unset, .unset, .unset, .unset, .unset, .unset, .unset] [(.long q3), (.long q2), (.ref b3), (.ref b3)])) (fun t kt => ?_) ?_
  · show Steps p.tables e below (T3.setTop (mkF m 14 #[.val (.long q0), .second, .val (.long q1), .second, .val (.long q2), .second, .val (.long q3), .second, .val (.ref b1), .unset, .unset, .unset, .unset, .unset, .unset, .unset, .unset, .unset] [(.ref b3)])) t
    refine XS.dup X3.here hx rfl (hb hby at_14) rfl rfl ?_
    show Steps p.tables e below (T3.setTop (mkF m 15 #[.val (.long q0), .second, .val (.long q1), .second, .val (.long q2), .second, .val (.long q3), .second, .val (.ref b1), .unset, .unset, .unset, .unset, .unset, .unset, .unset, .unset, .unset] [(.ref b3), (.ref b3)])) t
    refine XS.lload X3.here hx rfl (hb hby at_15) rfl ?_
    show Steps p.tables e below (T3.setTop (mkF m 17 #[.val (.long q0), .second, .val (.long q1), .second, .val (.long q2), .second, .val (.long q3), .second, .val (.ref b1), .unset, .unset, .unset, .unset, .unset, .unset, .unset, .unset, .unset] [(.long q2), (.ref b3), (.ref b3)])) t
    refine XS.lload X3.here hx rfl (hb hby at_17) rfl ?_
    show Steps p.tables e below (T3.setTop (mkF m 19 #[.val (.long q0), .second, .val (.long q1), .second, .val (.long q2), .second, .val (.long q3), .second, .val (.ref b1), .unset, .unset, .unset, .unset, .unset, .unset, .unset, .unset, .unset] [(.long q3), (.long q2), (.ref b3), (.ref b3)])) t
    exact kt
  refine own_callC X3 hx hZ hown e3 rfl (hw _ (List.mem_of_getElem? (i := 3) rfl)) (hw _ (List.mem_of_getElem? (i := 4) rfl)) (hw _ (List.mem_of_getElem? (i := 2) rfl)) (hw _ (List.mem_of_getElem? (i := 5) rfl)) (by decide) (rm1 l Z aw hw b3 q2 q3 h3 n0 ZE3 A3 K_b3 g_b3) (g := (mkF m 19 #[.val (.long q0), .second, .val (.long q1), .second, .val (.long q2), .second, .val (.long q3), .second, .val (.ref b1), .unset, .unset, .unset, .unset, .unset, .unset, .unset, .unset, .unset] [(.long q3), (.long q2), (.ref b3), (.ref b3)])) rfl (by rw [hml]; rfl) (argsL := [(.long q2), (.long q3)]) (rest := [(.ref b3)]) (lenOf pd_1 rfl) rfl rfl (W := 1) (by show 2 * 0 + _ ≤ _; exact Nat.le_of_eq rfl) (hb hby at_19) (by decide) (by decide) (by decide) (by decide) ?_
  rintro _ T4 L4 X4 ⟨rfl, Nq4, Kq4, Pq4_0, Pq4_1, Pq4_2⟩
  have N4 := Fr.app N2 Nq4
  replace Pq2_0 := (Pq2_0.keep Kq4)
  replace Pq2_1 := (Pq2_1.keep Kq4 (ninS (ne_b1_b3) nin0))
  replace Pq2_2 := (Pq2_2.keep Kq4 (ninS (ne_b1_b3) nin0))
  replace A3 := (A3.keep Kq4)
  replace K_b3 := own_K_keep K_b3 Kq4
  have ZKq4 : n0 ≤ T4.heap.size := Nat.le_trans ZE3 Kq4.1
  have KKKq4 := KKE3.trans Kq4 ((allS (Or.inr sz_b3) all0))
  refine own_go (T' := T4) (f' := (mkF m 24 #[.val (.long q0), .second, .val (.long q1), .second, .val (.long q2), .second, .val (.long q3), .second, .val (.ref b1), .val (.ref b3), .unset, .unset, .unset, .unset, .unset, .unset, .unset, .unset] [])) (fun t kt => ?_) ?_
  · show Steps p.tables e below (T4.setTop (mkF m 22 #[.val (.long q0), .second, .val (.long q1), .second, .val (.long q2), .second, .val (.long q3), .second, .val (.ref b1), .unset, .unset, .unset, .unset, .unset, .unset, .unset, .unset, .unset] [(.ref b3)])) t
    refine XS.astore X4.here hx rfl (hb hby at_22) rfl rfl (l' := #[.val (.long q0), .second, .val (.long q1), .second, .val (.long q2), .second, .val (.long q3), .second, .val (.ref b1), .val (.ref b3), .unset, .unset, .unset, .unset, .unset, .unset, .unset, .unset]) rfl ?_
    show Steps p.tables e below (T4.setTop (mkF m 24 #[.val (.long q0), .second, .val (.long q1), .second, .val (.long q2), .second, .val (.long q3), .second, .val (.ref b1), .val (.ref b3), .unset, .unset, .unset, .unset, .unset, .unset, .unset, .unset] [])) t
    exact kt
  obtain ⟨T5, h5, X5, e5, E5, A5, D5, U5, st5⟩ := newO X4 hx hZ hown (hw _ (List.mem_of_getElem? (i := 0) rfl)) (hw _ (List.mem_of_getElem? (i := 1) rfl)) (hw _ (List.mem_of_getElem? (i := 2) rfl)) rfl (g := (mkF m 24 #[.val (.long q0), .second, .val (.long q1), .second, .val (.long q2), .second, .val (.long q3), .second, .val (.ref b1), .val (.ref b3), .unset, .unset, .unset, .unset, .unset, .unset, .unset, .unset] [])) rfl (hb hby at_24) (by decide) (by decide)
  obtain ⟨b5, y5⟩ : ∃ z, z = T4.heap.size := ⟨_, rfl⟩
  rw [← y5] at A5 D5 U5 st5
  have ne_b1_b5 : b1 ≠ b5 := Nat.ne_of_lt (Nat.lt_of_lt_of_le Pq2_0.lt (Nat.le_of_eq y5.symm))
  have ne_b5_b1 := ne_b1_b5.symm
  have ne_b3_b5 : b3 ≠ b5 := Nat.ne_of_lt (Nat.lt_of_lt_of_le Pq4_0.lt (Nat.le_of_eq y5.symm))
  have ne_b5_b3 := ne_b3_b5.symm
  have g_b5 : n0 ≤ b5 := Nat.le_trans ZKq4 (Nat.le_of_eq y5.symm)
  have sz_b5 : h0.size ≤ b5 := Nat.le_trans KKKq4.1 (Nat.le_of_eq y5.symm)
  replace Pq2_0 := (Pq2_0.ext E5)
  replace Pq2_1 := (Pq2_1.ext E5)
  replace Pq2_2 := (Pq2_2.ext E5)
  replace Pq4_0 := (Pq4_0.ext E5)
  replace Pq4_1 := (Pq4_1.ext E5)
  replace Pq4_2 := (Pq4_2.ext E5)
  have ZE5 : n0 ≤ h5.size := Nat.le_trans ZKq4 E5.1
  have KKE5 := KKKq4.ext E5
  refine own_go st5 ?_
  have K_b5 := own_K_new U5
  refine own_go (T' := T5) (f' := (mkF m 30 #[.val (.long q0), .second, .val (.long q1), .second, .val (.long q2), .second, .val (.long q3), .second, .val (.ref b1), .val (.ref b3), .unset, .unset, .unset, .unset, .unset, .unset, .unset, .unset] [(.long q1), (.long q0), (.ref b5), (.ref b5)])) (fun t kt => ?_) ?_
  · show Steps p.tables e below (T5.setTop (mkF m 27 #[.val (.long q0), .second, .val (.long q1), .second, .val (.long q2), .second, .val (.long q3), .second, .val (.ref b1), .val (.ref b3), .unset, .unset, .unset, .unset, .unset, .unset, .unset, .unset] [(.ref b5)])) t
    refine XS.dup X5.here hx rfl (hb hby at_27) rfl rfl ?_
    show Steps p.tables e below (T5.setTop (mkF m 28 #[.val (.long q0), .second, .val (.long q1), .second, .val (.long q2), .second, .val (.long q3), .second, .val (.ref b1), .val (.ref b3), .unset, .unset, .unset, .unset, .unset, .unset, .unset, .unset] [(.ref b5), (.ref b5)])) t
    refine XS.lloadN X5.here hx rfl (hb hby at_28) rfl ?_
    show Steps p.tables e below (T5.setTop (mkF m 29 #[.val (.long q0), .second, .val (.long q1), .second, .val (.long q2), .second, .val (.long q3), .second, .val (.ref b1), .val (.ref b3), .unset, .unset, .unset, .unset, .unset, .unset, .unset, .unset] [(.long q0), (.ref b5), (.ref b5)])) t
    refine XS.lloadN X5.here hx rfl (hb hby at_29) rfl ?_
    show Steps p.tables e below (T5.setTop (mkF m 30 #[.val (.long q0), .second, .val (.long q1), .second, .val (.long q2), .second, .val (.long q3), .second, .val (.ref b1), .val (.ref b3), .unset, .unset, .unset, .unset, .unset, .unset, .unset, .unset] [(.long q1), (.long q0), (.ref b5), (.ref b5)])) t
    exact kt
  refine own_callC X5 hx hZ hown e5 rfl (hw _ (List.mem_of_getElem? (i := 3) rfl)) (hw _ (List.mem_of_getElem? (i := 4) rfl)) (hw _ (List.mem_of_getElem? (i := 2) rfl)) (hw _ (List.mem_of_getElem? (i := 5) rfl)) (by decide) (rm1 l Z aw hw b5 q0 q1 h5 n0 ZE5 A5 K_b5 g_b5) (g := (mkF m 30 #[.val (.long q0), .second, .val (.long q1), .second, .val (.long q2), .second, .val (.long q3), .second, .val (.ref b1), .val (.ref b3), .unset, .unset, .unset, .unset, .unset, .unset, .unset, .unset] [(.long q1), (.long q0), (.ref b5), (.ref b5)])) rfl (by rw [hml]; rfl) (argsL := [(.long q0), (.long q1)]) (rest := [(.ref b5)]) (lenOf pd_1 rfl) rfl rfl (W := 1) (by show 2 * 0 + _ ≤ _; exact Nat.le_of_eq rfl) (hb hby at_30) (by decide) (by decide) (by decide) (by decide) ?_
  rintro _ T6 L6 X6 ⟨rfl, Nq6, Kq6, Pq6_0, Pq6_1, Pq6_2⟩
  have N6 := Fr.app N4 Nq6
  replace Pq2_0 := (Pq2_0.keep Kq6)
  replace Pq2_1 := (Pq2_1.keep Kq6 (ninS (ne_b1_b5) nin0))
  replace Pq2_2 := (Pq2_2.keep Kq6 (ninS (ne_b1_b5) nin0))
  replace Pq4_0 := (Pq4_0.keep Kq6)
  replace Pq4_1 := (Pq4_1.keep Kq6 (ninS (ne_b3_b5) nin0))
  replace Pq4_2 := (Pq4_2.keep Kq6 (ninS (ne_b3_b5) nin0))
  replace A5 := (A5.keep Kq6)
  replace K_b5 := own_K_keep K_b5 Kq6
  have ZKq6 : n0 ≤ T6.heap.size := Nat.le_trans ZE5 Kq6.1
  have KKKq6 := KKE5.trans Kq6 ((allS (Or.inr sz_b5) all0))
  refine own_go (T' := T6) (f' := (mkF m 39 #[.val (.long q0), .second, .val (.long q1), .second, .val (.long q2), .second, .val (.long q3), .second, .val (.ref b1), .val (.ref b3), .val (.ref b5), .unset, .unset, .unset, .unset, .unset, .unset, .unset] [(.ref b3), (.ref b1)])) (fun t kt => ?_) ?_
  · show Steps p.tables e below (T6.setTop (mkF m 33 #[.val (.long q0), .second, .val (.long q1), .second, .val (.long q2), .second, .val (.long q3), .second, .val (.ref b1), .val (.ref b3), .unset, .unset, .unset, .unset, .unset, .unset, .unset, .unset] [(.ref b5)])) t
    refine XS.astore X6.here hx rfl (hb hby at_33) rfl rfl (l' := #[.val (.long q0), .second, .val (.long q1), .second, .val (.long q2), .second, .val (.long q3), .second, .val (.ref b1), .val (.ref b3), .val (.ref b5), .unset, .unset, .unset, .unset, .unset, .unset, .unset]) rfl ?_
    show Steps p.tables e below (T6.setTop (mkF m 35 #[.val (.long q0), .second, .val (.long q1), .second, .val (.long q2), .second, .val (.long q3), .second, .val (.ref b1), .val (.ref b3), .val (.ref b5), .unset, .unset, .unset, .unset, .unset, .unset, .unset] [])) t
    refine XS.aload X6.here hx rfl (hb hby at_35) rfl rfl ?_
    show Steps p.tables e below (T6.setTop (mkF m 37 #[.val (.long q0), .second, .val (.long q1), .second, .val (.long q2), .second, .val (.long q3), .second, .val (.ref b1), .val (.ref b3), .val (.ref b5), .unset, .unset, .unset, .unset, .unset, .unset, .unset] [(.ref b1)])) t
    refine XS.aload X6.here hx rfl (hb hby at_37) rfl rfl ?_
    show Steps p.tables e below (T6.setTop (mkF m 39 #[.val (.long q0), .second, .val (.long q1), .second, .val (.long q2), .second, .val (.long q3), .second, .val (.ref b1), .val (.ref b3), .val (.ref b5), .unset, .unset, .unset, .unset, .unset, .unset, .unset] [(.ref b3), (.ref b1)])) t
    exact kt
  refine own_callVp X6 hx hZ hown rfl (hw _ (List.mem_of_getElem? (i := 18) rfl)) (hw _ (List.mem_of_getElem? (i := 19) rfl)) (notFace_of_selects (args := #[]) (mvT hZ (hw _ (List.mem_of_getElem? (i := 21) rfl)))) (hw _ (List.mem_of_getElem? (i := 21) rfl)) (hw _ (List.mem_of_getElem? (i := 20) rfl)) (hw _ (List.mem_of_getElem? (i := 2) rfl)) (hw _ (List.mem_of_getElem? (i := 22) rfl)) (by decide) (rm4 l Z aw hw b1 b3 q0 q1 q2 q3 T6.heap n0 ZKq6 Pq2_1 Pq2_2 Pq4_1 Pq4_2) Pq2_0 (g := (mkF m 39 #[.val (.long q0), .second, .val (.long q1), .second, .val (.long q2), .second, .val (.long q3), .second, .val (.ref b1), .val (.ref b3), .val (.ref b5), .unset, .unset, .unset, .unset, .unset, .unset, .unset] [(.ref b3), (.ref b1)])) rfl (by rw [hml]; rfl) (argsL := [(.ref b3)]) (rest := []) (lenOf pd_2 rfl) rfl rfl (W := 0) (by show 2 * 0 + _ ≤ _; exact Nat.le_of_eq rfl) (hb hby at_39) (by decide) (by decide) (by decide) (by decide) ?_
  intro T7 X7 e7
  refine own_go (T' := T7) (f' := (mkF m 48 #[.val (.long q0), .second, .val (.long q1), .second, .val (.long q2), .second, .val (.long q3), .second, .val (.ref b1), .val (.ref b3), .val (.ref b5), .val (.int (own_z (q2 < q0 ∧ q3 < q1))), .unset, .unset, .unset, .unset, .unset, .unset] [(.ref b1), (.ref b3)])) (fun t kt => ?_) ?_
  · show Steps p.tables e below (T7.setTop (mkF m 42 #[.val (.long q0), .second, .val (.long q1), .second, .val (.long q2), .second, .val (.long q3), .second, .val (.ref b1), .val (.ref b3), .val (.ref b5), .unset, .unset, .unset, .unset, .unset, .unset, .unset] [(.int (own_z (q2 < q0 ∧ q3 < q1)))])) t
    refine XS.istore X7.here hx rfl (hb hby at_42) rfl (l' := #[.val (.long q0), .second, .val (.long q1), .second, .val (.long q2), .second, .val (.long q3), .second, .val (.ref b1), .val (.ref b3), .val (.ref b5), .val (.int (own_z (q2 < q0 ∧ q3 < q1))), .unset, .unset, .unset, .unset, .unset, .unset]) rfl ?_
    show Steps p.tables e below (T7.setTop (mkF m 44 #[.val (.long q0), .second, .val (.long q1), .second, .val (.long q2), .second, .val (.long q3), .second, .val (.ref b1), .val (.ref b3), .val (.ref b5), .val (.int (own_z (q2 < q0 ∧ q3 < q1))), .unset, .unset, .unset, .unset, .unset, .unset] [])) t
    refine XS.aload X7.here hx rfl (hb hby at_44) rfl rfl ?_
    show Steps p.tables e below (T7.setTop (mkF m 46 #[.val (.long q0), .second, .val (.long q1), .second, .val (.long q2), .second, .val (.long q3), .second, .val (.ref b1), .val (.ref b3), .val (.ref b5), .val (.int (own_z (q2 < q0 ∧ q3 < q1))), .unset, .unset, .unset, .unset, .unset, .unset] [(.ref b3)])) t
    refine XS.aload X7.here hx rfl (hb hby at_46) rfl rfl ?_
    show Steps p.tables e below (T7.setTop (mkF m 48 #[.val (.long q0), .second, .val (.long q1), .second, .val (.long q2), .second, .val (.long q3), .second, .val (.ref b1), .val (.ref b3), .val (.ref b5), .val (.int (own_z (q2 < q0 ∧ q3 < q1))), .unset, .unset, .unset, .unset, .unset, .unset] [(.ref b1), (.ref b3)])) t
    exact kt
  refine own_callVp X7 hx hZ hown e7 (hw _ (List.mem_of_getElem? (i := 18) rfl)) (hw _ (List.mem_of_getElem? (i := 19) rfl)) (notFace_of_selects (args := #[]) (mvT hZ (hw _ (List.mem_of_getElem? (i := 21) rfl)))) (hw _ (List.mem_of_getElem? (i := 21) rfl)) (hw _ (List.mem_of_getElem? (i := 20) rfl)) (hw _ (List.mem_of_getElem? (i := 2) rfl)) (hw _ (List.mem_of_getElem? (i := 22) rfl)) (by decide) (rm4 l Z aw hw b3 b1 q2 q3 q0 q1 T6.heap n0 ZKq6 Pq4_1 Pq4_2 Pq2_1 Pq2_2) Pq4_0 (g := (mkF m 48 #[.val (.long q0), .second, .val (.long q1), .second, .val (.long q2), .second, .val (.long q3), .second, .val (.ref b1), .val (.ref b3), .val (.ref b5), .val (.int (own_z (q2 < q0 ∧ q3 < q1))), .unset, .unset, .unset, .unset, .unset, .unset] [(.ref b1), (.ref b3)])) rfl (by rw [hml]; rfl) (argsL := [(.ref b1)]) (rest := []) (lenOf pd_2 rfl) rfl rfl (W := 0) (by show 2 * 0 + _ ≤ _; exact Nat.le_of_eq rfl) (hb hby at_48) (by decide) (by decide) (by decide) (by decide) ?_
  intro T8 X8 e8
  refine own_go (T' := T8) (f' := (mkF m 57 #[.val (.long q0), .second, .val (.long q1), .second, .val (.long q2), .second, .val (.long q3), .second, .val (.ref b1), .val (.ref b3), .val (.ref b5), .val (.int (own_z (q2 < q0 ∧ q3 < q1))), .val (.int (own_z (q0 < q2 ∧ q1 < q3))), .unset, .unset, .unset, .unset, .unset] [(.ref b5), (.ref b1)])) (fun t kt => ?_) ?_
  · show Steps p.tables e below (T8.setTop (mkF m 51 #[.val (.long q0), .second, .val (.long q1), .second, .val (.long q2), .second, .val (.long q3), .second, .val (.ref b1), .val (.ref b3), .val (.ref b5), .val (.int (own_z (q2 < q0 ∧ q3 < q1))), .unset, .unset, .unset, .unset, .unset, .unset] [(.int (own_z (q0 < q2 ∧ q1 < q3)))])) t
    refine XS.istore X8.here hx rfl (hb hby at_51) rfl (l' := #[.val (.long q0), .second, .val (.long q1), .second, .val (.long q2), .second, .val (.long q3), .second, .val (.ref b1), .val (.ref b3), .val (.ref b5), .val (.int (own_z (q2 < q0 ∧ q3 < q1))), .val (.int (own_z (q0 < q2 ∧ q1 < q3))), .unset, .unset, .unset, .unset, .unset]) rfl ?_
    show Steps p.tables e below (T8.setTop (mkF m 53 #[.val (.long q0), .second, .val (.long q1), .second, .val (.long q2), .second, .val (.long q3), .second, .val (.ref b1), .val (.ref b3), .val (.ref b5), .val (.int (own_z (q2 < q0 ∧ q3 < q1))), .val (.int (own_z (q0 < q2 ∧ q1 < q3))), .unset, .unset, .unset, .unset, .unset] [])) t
    refine XS.aload X8.here hx rfl (hb hby at_53) rfl rfl ?_
    show Steps p.tables e below (T8.setTop (mkF m 55 #[.val (.long q0), .second, .val (.long q1), .second, .val (.long q2), .second, .val (.long q3), .second, .val (.ref b1), .val (.ref b3), .val (.ref b5), .val (.int (own_z (q2 < q0 ∧ q3 < q1))), .val (.int (own_z (q0 < q2 ∧ q1 < q3))), .unset, .unset, .unset, .unset, .unset] [(.ref b1)])) t
    refine XS.aload X8.here hx rfl (hb hby at_55) rfl rfl ?_
    show Steps p.tables e below (T8.setTop (mkF m 57 #[.val (.long q0), .second, .val (.long q1), .second, .val (.long q2), .second, .val (.long q3), .second, .val (.ref b1), .val (.ref b3), .val (.ref b5), .val (.int (own_z (q2 < q0 ∧ q3 < q1))), .val (.int (own_z (q0 < q2 ∧ q1 < q3))), .unset, .unset, .unset, .unset, .unset] [(.ref b5), (.ref b1)])) t
    exact kt
  refine own_callVp X8 hx hZ hown e8 (hw _ (List.mem_of_getElem? (i := 18) rfl)) (hw _ (List.mem_of_getElem? (i := 19) rfl)) (notFace_of_selects (args := #[]) (mvT hZ (hw _ (List.mem_of_getElem? (i := 21) rfl)))) (hw _ (List.mem_of_getElem? (i := 21) rfl)) (hw _ (List.mem_of_getElem? (i := 20) rfl)) (hw _ (List.mem_of_getElem? (i := 2) rfl)) (hw _ (List.mem_of_getElem? (i := 22) rfl)) (by decide) (rm4 l Z aw hw b1 b5 q0 q1 q0 q1 T6.heap n0 ZKq6 Pq2_1 Pq2_2 Pq6_1 Pq6_2) Pq2_0 (g := (mkF m 57 #[.val (.long q0), .second, .val (.long q1), .second, .val (.long q2), .second, .val (.long q3), .second, .val (.ref b1), .val (.ref b3), .val (.ref b5), .val (.int (own_z (q2 < q0 ∧ q3 < q1))), .val (.int (own_z (q0 < q2 ∧ q1 < q3))), .unset, .unset, .unset, .unset, .unset] [(.ref b5), (.ref b1)])) rfl (by rw [hml]; rfl) (argsL := [(.ref b5)]) (rest := []) (lenOf pd_2 rfl) rfl rfl (W := 0) (by show 2 * 0 + _ ≤ _; exact Nat.le_of_eq rfl) (hb hby at_57) (by decide) (by decide) (by decide) (by decide) ?_
  intro T9 X9 e9
  refine own_go (T' := T9) (f' := (mkF m 70 #[.val (.long q0), .second, .val (.long q1), .second, .val (.long q2), .second, .val (.long q3), .second, .val (.ref b1), .val (.ref b3), .val (.ref b5), .val (.int (own_z (q2 < q0 ∧ q3 < q1))), .val (.int (own_z (q0 < q2 ∧ q1 < q3))), .val (.int (own_z (q0 < q0 ∧ q1 < q1))), .unset, .unset, .unset, .unset] [(.long q3), (.long q2), (.long q1), (.long q0), (.int (own_z (q2 < q0 ∧ q3 < q1)))])) (fun t kt => ?_) ?_
  · show Steps p.tables e below (T9.setTop (mkF m 60 #[.val (.long q0), .second, .val (.long q1), .second, .val (.long q2), .second, .val (.long q3), .second, .val (.ref b1), .val (.ref b3), .val (.ref b5), .val (.int (own_z (q2 < q0 ∧ q3 < q1))), .val (.int (own_z (q0 < q2 ∧ q1 < q3))), .unset, .unset, .unset, .unset, .unset] [(.int (own_z (q0 < q0 ∧ q1 < q1)))])) t
    refine XS.istore X9.here hx rfl (hb hby at_60) rfl (l' := #[.val (.long q0), .second, .val (.long q1), .second, .val (.long q2), .second, .val (.long q3), .second, .val (.ref b1), .val (.ref b3), .val (.ref b5), .val (.int (own_z (q2 < q0 ∧ q3 < q1))), .val (.int (own_z (q0 < q2 ∧ q1 < q3))), .val (.int (own_z (q0 < q0 ∧ q1 < q1))), .unset, .unset, .unset, .unset]) rfl ?_
    show Steps p.tables e below (T9.setTop (mkF m 62 #[.val (.long q0), .second, .val (.long q1), .second, .val (.long q2), .second, .val (.long q3), .second, .val (.ref b1), .val (.ref b3), .val (.ref b5), .val (.int (own_z (q2 < q0 ∧ q3 < q1))), .val (.int (own_z (q0 < q2 ∧ q1 < q3))), .val (.int (own_z (q0 < q0 ∧ q1 < q1))), .unset, .unset, .unset, .unset] [])) t
    refine XS.iload X9.here hx rfl (hb hby at_62) rfl ?_
    show Steps p.tables e below (T9.setTop (mkF m 64 #[.val (.long q0), .second, .val (.long q1), .second, .val (.long q2), .second, .val (.long q3), .second, .val (.ref b1), .val (.ref b3), .val (.ref b5), .val (.int (own_z (q2 < q0 ∧ q3 < q1))), .val (.int (own_z (q0 < q2 ∧ q1 < q3))), .val (.int (own_z (q0 < q0 ∧ q1 < q1))), .unset, .unset, .unset, .unset] [(.int (own_z (q2 < q0 ∧ q3 < q1)))])) t
    refine XS.lloadN X9.here hx rfl (hb hby at_64) rfl ?_
    show Steps p.tables e below (T9.setTop (mkF m 65 #[.val (.long q0), .second, .val (.long q1), .second, .val (.long q2), .second, .val (.long q3), .second, .val (.ref b1), .val (.ref b3), .val (.ref b5), .val (.int (own_z (q2 < q0 ∧ q3 < q1))), .val (.int (own_z (q0 < q2 ∧ q1 < q3))), .val (.int (own_z (q0 < q0 ∧ q1 < q1))), .unset, .unset, .unset, .unset] [(.long q0), (.int (own_z (q2 < q0 ∧ q3 < q1)))])) t
    refine XS.lloadN X9.here hx rfl (hb hby at_65) rfl ?_
    show Steps p.tables e below (T9.setTop (mkF m 66 #[.val (.long q0), .second, .val (.long q1), .second, .val (.long q2), .second, .val (.long q3), .second, .val (.ref b1), .val (.ref b3), .val (.ref b5), .val (.int (own_z (q2 < q0 ∧ q3 < q1))), .val (.int (own_z (q0 < q2 ∧ q1 < q3))), .val (.int (own_z (q0 < q0 ∧ q1 < q1))), .unset, .unset, .unset, .unset] [(.long q1), (.long q0), (.int (own_z (q2 < q0 ∧ q3 < q1)))])) t
    refine XS.lload X9.here hx rfl (hb hby at_66) rfl ?_
    show Steps p.tables e below (T9.setTop (mkF m 68 #[.val (.long q0), .second, .val (.long q1), .second, .val (.long q2), .second, .val (.long q3), .second, .val (.ref b1), .val (.ref b3), .val (.ref b5), .val (.int (own_z (q2 < q0 ∧ q3 < q1))), .val (.int (own_z (q0 < q2 ∧ q1 < q3))), .val (.int (own_z (q0 < q0 ∧ q1 < q1))), .unset, .unset, .unset, .unset] [(.long q2), (.long q1), (.long q0), (.int (own_z (q2 < q0 ∧ q3 < q1)))])) t
    refine XS.lload X9.here hx rfl (hb hby at_68) rfl ?_
    show Steps p.tables e below (T9.setTop (mkF m 70 #[.val (.long q0), .second, .val (.long q1), .second, .val (.long q2), .second, .val (.long q3), .second, .val (.ref b1), .val (.ref b3), .val (.ref b5), .val (.int (own_z (q2 < q0 ∧ q3 < q1))), .val (.int (own_z (q0 < q2 ∧ q1 < q3))), .val (.int (own_z (q0 < q0 ∧ q1 < q1))), .unset, .unset, .unset, .unset] [(.long q3), (.long q2), (.long q1), (.long q0), (.int (own_z (q2 < q0 ∧ q3 < q1)))])) t
    exact kt
  refine own_callSp X9 hx hZ hown e9 (hw _ (List.mem_of_getElem? (i := 23) rfl)) (hw _ (List.mem_of_getElem? (i := 24) rfl)) (hw _ (List.mem_of_getElem? (i := 25) rfl)) (hw _ (List.mem_of_getElem? (i := 26) rfl)) (by decide) (rm5 l Z aw hw q0 q1 q2 q3 T6.heap n0 ZKq6) (g := (mkF m 70 #[.val (.long q0), .second, .val (.long q1), .second, .val (.long q2), .second, .val (.long q3), .second, .val (.ref b1), .val (.ref b3), .val (.ref b5), .val (.int (own_z (q2 < q0 ∧ q3 < q1))), .val (.int (own_z (q0 < q2 ∧ q1 < q3))), .val (.int (own_z (q0 < q0 ∧ q1 < q1))), .unset, .unset, .unset, .unset] [(.long q3), (.long q2), (.long q1), (.long q0), (.int (own_z (q2 < q0 ∧ q3 < q1)))])) rfl (by rw [hml]; rfl) (argsL := [(.long q0), (.long q1), (.long q2), (.long q3)]) (rest := [(.int (own_z (q2 < q0 ∧ q3 < q1)))]) (lenOf pd_3 rfl) rfl rfl (W := 1) (by show 2 * 0 + _ ≤ _; exact Nat.le_of_eq rfl) (hb hby at_70) (by decide) (by decide) (by decide) (by decide) ?_
  intro T10 X10 e10
  refine own_go (T' := T10) (f' := (mkF m 91 #[.val (.long q0), .second, .val (.long q1), .second, .val (.long q2), .second, .val (.long q3), .second, .val (.ref b1), .val (.ref b3), .val (.ref b5), .val (.int (own_z (q2 < q0 ∧ q3 < q1))), .val (.int (own_z (q0 < q2 ∧ q1 < q3))), .val (.int (own_z (q0 < q0 ∧ q1 < q1))), .val (.int (1 : Int32)), .unset, .unset, .unset] [(.long q1), (.long q0), (.long q3), (.long q2), (.int (own_z (q0 < q2 ∧ q1 < q3)))])) (fun t kt => ?_) ?_
  · show Steps p.tables e below (T10.setTop (mkF m 73 #[.val (.long q0), .second, .val (.long q1), .second, .val (.long q2), .second, .val (.long q3), .second, .val (.ref b1), .val (.ref b3), .val (.ref b5), .val (.int (own_z (q2 < q0 ∧ q3 < q1))), .val (.int (own_z (q0 < q2 ∧ q1 < q3))), .val (.int (own_z (q0 < q0 ∧ q1 < q1))), .unset, .unset, .unset, .unset] [(.int (own_z (q2 < q0 ∧ q3 < q1))), (.int (own_z (q2 < q0 ∧ q3 < q1)))])) t
    refine XS.icmpNo X10.here hx rfl (hb hby at_73) rfl (teq (rfl : (own_z (q2 < q0 ∧ q3 < q1)) = (own_z (q2 < q0 ∧ q3 < q1)))).2 ?_
    show Steps p.tables e below (T10.setTop (mkF m 76 #[.val (.long q0), .second, .val (.long q1), .second, .val (.long q2), .second, .val (.long q3), .second, .val (.ref b1), .val (.ref b3), .val (.ref b5), .val (.int (own_z (q2 < q0 ∧ q3 < q1))), .val (.int (own_z (q0 < q2 ∧ q1 < q3))), .val (.int (own_z (q0 < q0 ∧ q1 < q1))), .unset, .unset, .unset, .unset] [])) t
    refine XS.iconst X10.here hx rfl (hb hby at_76) ?_
    show Steps p.tables e below (T10.setTop (mkF m 77 #[.val (.long q0), .second, .val (.long q1), .second, .val (.long q2), .second, .val (.long q3), .second, .val (.ref b1), .val (.ref b3), .val (.ref b5), .val (.int (own_z (q2 < q0 ∧ q3 < q1))), .val (.int (own_z (q0 < q2 ∧ q1 < q3))), .val (.int (own_z (q0 < q0 ∧ q1 < q1))), .unset, .unset, .unset, .unset] [(.int (1 : Int32))])) t
    refine XS.goto X10.here hx rfl (pc0 := 77) (pc' := 81) rfl (hb hby at_77) (by decide) (by decide) ?_
    show Steps p.tables e below (T10.setTop (mkF m 81 #[.val (.long q0), .second, .val (.long q1), .second, .val (.long q2), .second, .val (.long q3), .second, .val (.ref b1), .val (.ref b3), .val (.ref b5), .val (.int (own_z (q2 < q0 ∧ q3 < q1))), .val (.int (own_z (q0 < q2 ∧ q1 < q3))), .val (.int (own_z (q0 < q0 ∧ q1 < q1))), .unset, .unset, .unset, .unset] [(.int (1 : Int32))])) t
    refine XS.istore X10.here hx rfl (hb hby at_81) rfl (l' := #[.val (.long q0), .second, .val (.long q1), .second, .val (.long q2), .second, .val (.long q3), .second, .val (.ref b1), .val (.ref b3), .val (.ref b5), .val (.int (own_z (q2 < q0 ∧ q3 < q1))), .val (.int (own_z (q0 < q2 ∧ q1 < q3))), .val (.int (own_z (q0 < q0 ∧ q1 < q1))), .val (.int (1 : Int32)), .unset, .unset, .unset]) rfl ?_
    show Steps p.tables e below (T10.setTop (mkF m 83 #[.val (.long q0), .second, .val (.long q1), .second, .val (.long q2), .second, .val (.long q3), .second, .val (.ref b1), .val (.ref b3), .val (.ref b5), .val (.int (own_z (q2 < q0 ∧ q3 < q1))), .val (.int (own_z (q0 < q2 ∧ q1 < q3))), .val (.int (own_z (q0 < q0 ∧ q1 < q1))), .val (.int (1 : Int32)), .unset, .unset, .unset] [])) t
    refine XS.iload X10.here hx rfl (hb hby at_83) rfl ?_
    show Steps p.tables e below (T10.setTop (mkF m 85 #[.val (.long q0), .second, .val (.long q1), .second, .val (.long q2), .second, .val (.long q3), .second, .val (.ref b1), .val (.ref b3), .val (.ref b5), .val (.int (own_z (q2 < q0 ∧ q3 < q1))), .val (.int (own_z (q0 < q2 ∧ q1 < q3))), .val (.int (own_z (q0 < q0 ∧ q1 < q1))), .val (.int (1 : Int32)), .unset, .unset, .unset] [(.int (own_z (q0 < q2 ∧ q1 < q3)))])) t
    refine XS.lload X10.here hx rfl (hb hby at_85) rfl ?_
    show Steps p.tables e below (T10.setTop (mkF m 87 #[.val (.long q0), .second, .val (.long q1), .second, .val (.long q2), .second, .val (.long q3), .second, .val (.ref b1), .val (.ref b3), .val (.ref b5), .val (.int (own_z (q2 < q0 ∧ q3 < q1))), .val (.int (own_z (q0 < q2 ∧ q1 < q3))), .val (.int (own_z (q0 < q0 ∧ q1 < q1))), .val (.int (1 : Int32)), .unset, .unset, .unset] [(.long q2), (.int (own_z (q0 < q2 ∧ q1 < q3)))])) t
    refine XS.lload X10.here hx rfl (hb hby at_87) rfl ?_
    show Steps p.tables e below (T10.setTop (mkF m 89 #[.val (.long q0), .second, .val (.long q1), .second, .val (.long q2), .second, .val (.long q3), .second, .val (.ref b1), .val (.ref b3), .val (.ref b5), .val (.int (own_z (q2 < q0 ∧ q3 < q1))), .val (.int (own_z (q0 < q2 ∧ q1 < q3))), .val (.int (own_z (q0 < q0 ∧ q1 < q1))), .val (.int (1 : Int32)), .unset, .unset, .unset] [(.long q3), (.long q2), (.int (own_z (q0 < q2 ∧ q1 < q3)))])) t
    refine XS.lloadN X10.here hx rfl (hb hby at_89) rfl ?_
    show Steps p.tables e below (T10.setTop (mkF m 90 #[.val (.long q0), .second, .val (.long q1), .second, .val (.long q2), .second, .val (.long q3), .second, .val (.ref b1), .val (.ref b3), .val (.ref b5), .val (.int (own_z (q2 < q0 ∧ q3 < q1))), .val (.int (own_z (q0 < q2 ∧ q1 < q3))), .val (.int (own_z (q0 < q0 ∧ q1 < q1))), .val (.int (1 : Int32)), .unset, .unset, .unset] [(.long q0), (.long q3), (.long q2), (.int (own_z (q0 < q2 ∧ q1 < q3)))])) t
    refine XS.lloadN X10.here hx rfl (hb hby at_90) rfl ?_
    show Steps p.tables e below (T10.setTop (mkF m 91 #[.val (.long q0), .second, .val (.long q1), .second, .val (.long q2), .second, .val (.long q3), .second, .val (.ref b1), .val (.ref b3), .val (.ref b5), .val (.int (own_z (q2 < q0 ∧ q3 < q1))), .val (.int (own_z (q0 < q2 ∧ q1 < q3))), .val (.int (own_z (q0 < q0 ∧ q1 < q1))), .val (.int (1 : Int32)), .unset, .unset, .unset] [(.long q1), (.long q0), (.long q3), (.long q2), (.int (own_z (q0 < q2 ∧ q1 < q3)))])) t
    exact kt
  refine own_callSp X10 hx hZ hown e10 (hw _ (List.mem_of_getElem? (i := 23) rfl)) (hw _ (List.mem_of_getElem? (i := 24) rfl)) (hw _ (List.mem_of_getElem? (i := 25) rfl)) (hw _ (List.mem_of_getElem? (i := 26) rfl)) (by decide) (rm5 l Z aw hw q2 q3 q0 q1 T6.heap n0 ZKq6) (g := (mkF m 91 #[.val (.long q0), .second, .val (.long q1), .second, .val (.long q2), .second, .val (.long q3), .second, .val (.ref b1), .val (.ref b3), .val (.ref b5), .val (.int (own_z (q2 < q0 ∧ q3 < q1))), .val (.int (own_z (q0 < q2 ∧ q1 < q3))), .val (.int (own_z (q0 < q0 ∧ q1 < q1))), .val (.int (1 : Int32)), .unset, .unset, .unset] [(.long q1), (.long q0), (.long q3), (.long q2), (.int (own_z (q0 < q2 ∧ q1 < q3)))])) rfl (by rw [hml]; rfl) (argsL := [(.long q2), (.long q3), (.long q0), (.long q1)]) (rest := [(.int (own_z (q0 < q2 ∧ q1 < q3)))]) (lenOf pd_3 rfl) rfl rfl (W := 1) (by show 2 * 0 + _ ≤ _; exact Nat.le_of_eq rfl) (hb hby at_91) (by decide) (by decide) (by decide) (by decide) ?_
  intro T11 X11 e11
  refine own_go (T' := T11) (f' := (mkF m 118 #[.val (.long q0), .second, .val (.long q1), .second, .val (.long q2), .second, .val (.long q3), .second, .val (.ref b1), .val (.ref b3), .val (.ref b5), .val (.int (own_z (q2 < q0 ∧ q3 < q1))), .val (.int (own_z (q0 < q2 ∧ q1 < q3))), .val (.int (own_z (q0 < q0 ∧ q1 < q1))), .val (.int (1 : Int32)), .val (.int (1 : Int32)), .val (.int (1 : Int32)), .unset] [(.int (own_z (q2 < q0 ∧ q3 < q1)))])) (fun t kt => ?_) ?_
  · show Steps p.tables e below (T11.setTop (mkF m 94 #[.val (.long q0), .second, .val (.long q1), .second, .val (.long q2), .second, .val (.long q3), .second, .val (.ref b1), .val (.ref b3), .val (.ref b5), .val (.int (own_z (q2 < q0 ∧ q3 < q1))), .val (.int (own_z (q0 < q2 ∧ q1 < q3))), .val (.int (own_z (q0 < q0 ∧ q1 < q1))), .val (.int (1 : Int32)), .unset, .unset, .unset] [(.int (own_z (q0 < q2 ∧ q1 < q3))), (.int (own_z (q0 < q2 ∧ q1 < q3)))])) t
    refine XS.icmpNo X11.here hx rfl (hb hby at_94) rfl (teq (rfl : (own_z (q0 < q2 ∧ q1 < q3)) = (own_z (q0 < q2 ∧ q1 < q3)))).2 ?_
    show Steps p.tables e below (T11.setTop (mkF m 97 #[.val (.long q0), .second, .val (.long q1), .second, .val (.long q2), .second, .val (.long q3), .second, .val (.ref b1), .val (.ref b3), .val (.ref b5), .val (.int (own_z (q2 < q0 ∧ q3 < q1))), .val (.int (own_z (q0 < q2 ∧ q1 < q3))), .val (.int (own_z (q0 < q0 ∧ q1 < q1))), .val (.int (1 : Int32)), .unset, .unset, .unset] [])) t
    refine XS.iconst X11.here hx rfl (hb hby at_97) ?_
    show Steps p.tables e below (T11.setTop (mkF m 98 #[.val (.long q0), .second, .val (.long q1), .second, .val (.long q2), .second, .val (.long q3), .second, .val (.ref b1), .val (.ref b3), .val (.ref b5), .val (.int (own_z (q2 < q0 ∧ q3 < q1))), .val (.int (own_z (q0 < q2 ∧ q1 < q3))), .val (.int (own_z (q0 < q0 ∧ q1 < q1))), .val (.int (1 : Int32)), .unset, .unset, .unset] [(.int (1 : Int32))])) t
    refine XS.goto X11.here hx rfl (pc0 := 98) (pc' := 102) rfl (hb hby at_98) (by decide) (by decide) ?_
    show Steps p.tables e below (T11.setTop (mkF m 102 #[.val (.long q0), .second, .val (.long q1), .second, .val (.long q2), .second, .val (.long q3), .second, .val (.ref b1), .val (.ref b3), .val (.ref b5), .val (.int (own_z (q2 < q0 ∧ q3 < q1))), .val (.int (own_z (q0 < q2 ∧ q1 < q3))), .val (.int (own_z (q0 < q0 ∧ q1 < q1))), .val (.int (1 : Int32)), .unset, .unset, .unset] [(.int (1 : Int32))])) t
    refine XS.istore X11.here hx rfl (hb hby at_102) rfl (l' := #[.val (.long q0), .second, .val (.long q1), .second, .val (.long q2), .second, .val (.long q3), .second, .val (.ref b1), .val (.ref b3), .val (.ref b5), .val (.int (own_z (q2 < q0 ∧ q3 < q1))), .val (.int (own_z (q0 < q2 ∧ q1 < q3))), .val (.int (own_z (q0 < q0 ∧ q1 < q1))), .val (.int (1 : Int32)), .val (.int (1 : Int32)), .unset, .unset]) rfl ?_
    show Steps p.tables e below (T11.setTop (mkF m 104 #[.val (.long q0), .second, .val (.long q1), .second, .val (.long q2), .second, .val (.long q3), .second, .val (.ref b1), .val (.ref b3), .val (.ref b5), .val (.int (own_z (q2 < q0 ∧ q3 < q1))), .val (.int (own_z (q0 < q2 ∧ q1 < q3))), .val (.int (own_z (q0 < q0 ∧ q1 < q1))), .val (.int (1 : Int32)), .val (.int (1 : Int32)), .unset, .unset] [])) t
    refine XS.iload X11.here hx rfl (hb hby at_104) rfl ?_
    show Steps p.tables e below (T11.setTop (mkF m 106 #[.val (.long q0), .second, .val (.long q1), .second, .val (.long q2), .second, .val (.long q3), .second, .val (.ref b1), .val (.ref b3), .val (.ref b5), .val (.int (own_z (q2 < q0 ∧ q3 < q1))), .val (.int (own_z (q0 < q2 ∧ q1 < q3))), .val (.int (own_z (q0 < q0 ∧ q1 < q1))), .val (.int (1 : Int32)), .val (.int (1 : Int32)), .unset, .unset] [(.int (own_z (q0 < q0 ∧ q1 < q1)))])) t
    refine XS.ifNo X11.here hx rfl (hb hby at_106) rfl (own_zN_ne (show ¬ ((q0 < q0 ∧ q1 < q1)) from fun h => Int64.lt_irrefl h.1)) ?_
    show Steps p.tables e below (T11.setTop (mkF m 109 #[.val (.long q0), .second, .val (.long q1), .second, .val (.long q2), .second, .val (.long q3), .second, .val (.ref b1), .val (.ref b3), .val (.ref b5), .val (.int (own_z (q2 < q0 ∧ q3 < q1))), .val (.int (own_z (q0 < q2 ∧ q1 < q3))), .val (.int (own_z (q0 < q0 ∧ q1 < q1))), .val (.int (1 : Int32)), .val (.int (1 : Int32)), .unset, .unset] [])) t
    refine XS.iconst X11.here hx rfl (hb hby at_109) ?_
    show Steps p.tables e below (T11.setTop (mkF m 110 #[.val (.long q0), .second, .val (.long q1), .second, .val (.long q2), .second, .val (.long q3), .second, .val (.ref b1), .val (.ref b3), .val (.ref b5), .val (.int (own_z (q2 < q0 ∧ q3 < q1))), .val (.int (own_z (q0 < q2 ∧ q1 < q3))), .val (.int (own_z (q0 < q0 ∧ q1 < q1))), .val (.int (1 : Int32)), .val (.int (1 : Int32)), .unset, .unset] [(.int (1 : Int32))])) t
    refine XS.goto X11.here hx rfl (pc0 := 110) (pc' := 114) rfl (hb hby at_110) (by decide) (by decide) ?_
    show Steps p.tables e below (T11.setTop (mkF m 114 #[.val (.long q0), .second, .val (.long q1), .second, .val (.long q2), .second, .val (.long q3), .second, .val (.ref b1), .val (.ref b3), .val (.ref b5), .val (.int (own_z (q2 < q0 ∧ q3 < q1))), .val (.int (own_z (q0 < q2 ∧ q1 < q3))), .val (.int (own_z (q0 < q0 ∧ q1 < q1))), .val (.int (1 : Int32)), .val (.int (1 : Int32)), .unset, .unset] [(.int (1 : Int32))])) t
    refine XS.istore X11.here hx rfl (hb hby at_114) rfl (l' := #[.val (.long q0), .second, .val (.long q1), .second, .val (.long q2), .second, .val (.long q3), .second, .val (.ref b1), .val (.ref b3), .val (.ref b5), .val (.int (own_z (q2 < q0 ∧ q3 < q1))), .val (.int (own_z (q0 < q2 ∧ q1 < q3))), .val (.int (own_z (q0 < q0 ∧ q1 < q1))), .val (.int (1 : Int32)), .val (.int (1 : Int32)), .val (.int (1 : Int32)), .unset]) rfl ?_
    show Steps p.tables e below (T11.setTop (mkF m 116 #[.val (.long q0), .second, .val (.long q1), .second, .val (.long q2), .second, .val (.long q3), .second, .val (.ref b1), .val (.ref b3), .val (.ref b5), .val (.int (own_z (q2 < q0 ∧ q3 < q1))), .val (.int (own_z (q0 < q2 ∧ q1 < q3))), .val (.int (own_z (q0 < q0 ∧ q1 < q1))), .val (.int (1 : Int32)), .val (.int (1 : Int32)), .val (.int (1 : Int32)), .unset] [])) t
    refine XS.iload X11.here hx rfl (hb hby at_116) rfl ?_
    show Steps p.tables e below (T11.setTop (mkF m 118 #[.val (.long q0), .second, .val (.long q1), .second, .val (.long q2), .second, .val (.long q3), .second, .val (.ref b1), .val (.ref b3), .val (.ref b5), .val (.int (own_z (q2 < q0 ∧ q3 < q1))), .val (.int (own_z (q0 < q2 ∧ q1 < q3))), .val (.int (own_z (q0 < q0 ∧ q1 < q1))), .val (.int (1 : Int32)), .val (.int (1 : Int32)), .val (.int (1 : Int32)), .unset] [(.int (own_z (q2 < q0 ∧ q3 < q1)))])) t
    exact kt
  by_cases hc118_12 : (q2 < q0 ∧ q3 < q1)
  · refine own_go (T' := T11) (f' := (mkF m 158 #[.val (.long q0), .second, .val (.long q1), .second, .val (.long q2), .second, .val (.long q3), .second, .val (.ref b1), .val (.ref b3), .val (.ref b5), .val (.int (own_z (q2 < q0 ∧ q3 < q1))), .val (.int (own_z (q0 < q2 ∧ q1 < q3))), .val (.int (own_z (q0 < q0 ∧ q1 < q1))), .val (.int (1 : Int32)), .val (.int (1 : Int32)), .val (.int (1 : Int32)), .val (.int (1 : Int32))] [(.int (1 : Int32))])) (fun t kt => ?_) ?_
    · show Steps p.tables e below (T11.setTop (mkF m 118 #[.val (.long q0), .second, .val (.long q1), .second, .val (.long q2), .second, .val (.long q3), .second, .val (.ref b1), .val (.ref b3), .val (.ref b5), .val (.int (own_z (q2 < q0 ∧ q3 < q1))), .val (.int (own_z (q0 < q2 ∧ q1 < q3))), .val (.int (own_z (q0 < q0 ∧ q1 < q1))), .val (.int (1 : Int32)), .val (.int (1 : Int32)), .val (.int (1 : Int32)), .unset] [(.int (own_z (q2 < q0 ∧ q3 < q1)))])) t
      refine XS.ifNo X11.here hx rfl (hb hby at_118) rfl (own_zN_eq hc118_12) ?_
      show Steps p.tables e below (T11.setTop (mkF m 121 #[.val (.long q0), .second, .val (.long q1), .second, .val (.long q2), .second, .val (.long q3), .second, .val (.ref b1), .val (.ref b3), .val (.ref b5), .val (.int (own_z (q2 < q0 ∧ q3 < q1))), .val (.int (own_z (q0 < q2 ∧ q1 < q3))), .val (.int (own_z (q0 < q0 ∧ q1 < q1))), .val (.int (1 : Int32)), .val (.int (1 : Int32)), .val (.int (1 : Int32)), .unset] [])) t
      refine XS.iload X11.here hx rfl (hb hby at_121) rfl ?_
      show Steps p.tables e below (T11.setTop (mkF m 123 #[.val (.long q0), .second, .val (.long q1), .second, .val (.long q2), .second, .val (.long q3), .second, .val (.ref b1), .val (.ref b3), .val (.ref b5), .val (.int (own_z (q2 < q0 ∧ q3 < q1))), .val (.int (own_z (q0 < q2 ∧ q1 < q3))), .val (.int (own_z (q0 < q0 ∧ q1 < q1))), .val (.int (1 : Int32)), .val (.int (1 : Int32)), .val (.int (1 : Int32)), .unset] [(.int (own_z (q0 < q2 ∧ q1 < q3)))])) t
      refine XS.ifNo X11.here hx rfl (hb hby at_123) rfl (own_zN_ne (show ¬ ((q0 < q2 ∧ q1 < q3)) from fun h => Int64.lt_asymm h.1 hc118_12.1)) ?_
      show Steps p.tables e below (T11.setTop (mkF m 126 #[.val (.long q0), .second, .val (.long q1), .second, .val (.long q2), .second, .val (.long q3), .second, .val (.ref b1), .val (.ref b3), .val (.ref b5), .val (.int (own_z (q2 < q0 ∧ q3 < q1))), .val (.int (own_z (q0 < q2 ∧ q1 < q3))), .val (.int (own_z (q0 < q0 ∧ q1 < q1))), .val (.int (1 : Int32)), .val (.int (1 : Int32)), .val (.int (1 : Int32)), .unset] [])) t
      refine XS.iconst X11.here hx rfl (hb hby at_126) ?_
      show Steps p.tables e below (T11.setTop (mkF m 127 #[.val (.long q0), .second, .val (.long q1), .second, .val (.long q2), .second, .val (.long q3), .second, .val (.ref b1), .val (.ref b3), .val (.ref b5), .val (.int (own_z (q2 < q0 ∧ q3 < q1))), .val (.int (own_z (q0 < q2 ∧ q1 < q3))), .val (.int (own_z (q0 < q0 ∧ q1 < q1))), .val (.int (1 : Int32)), .val (.int (1 : Int32)), .val (.int (1 : Int32)), .unset] [(.int (1 : Int32))])) t
      refine XS.goto X11.here hx rfl (pc0 := 127) (pc' := 131) rfl (hb hby at_127) (by decide) (by decide) ?_
      show Steps p.tables e below (T11.setTop (mkF m 131 #[.val (.long q0), .second, .val (.long q1), .second, .val (.long q2), .second, .val (.long q3), .second, .val (.ref b1), .val (.ref b3), .val (.ref b5), .val (.int (own_z (q2 < q0 ∧ q3 < q1))), .val (.int (own_z (q0 < q2 ∧ q1 < q3))), .val (.int (own_z (q0 < q0 ∧ q1 < q1))), .val (.int (1 : Int32)), .val (.int (1 : Int32)), .val (.int (1 : Int32)), .unset] [(.int (1 : Int32))])) t
      refine XS.istore X11.here hx rfl (hb hby at_131) rfl (l' := #[.val (.long q0), .second, .val (.long q1), .second, .val (.long q2), .second, .val (.long q3), .second, .val (.ref b1), .val (.ref b3), .val (.ref b5), .val (.int (own_z (q2 < q0 ∧ q3 < q1))), .val (.int (own_z (q0 < q2 ∧ q1 < q3))), .val (.int (own_z (q0 < q0 ∧ q1 < q1))), .val (.int (1 : Int32)), .val (.int (1 : Int32)), .val (.int (1 : Int32)), .val (.int (1 : Int32))]) rfl ?_
      show Steps p.tables e below (T11.setTop (mkF m 133 #[.val (.long q0), .second, .val (.long q1), .second, .val (.long q2), .second, .val (.long q3), .second, .val (.ref b1), .val (.ref b3), .val (.ref b5), .val (.int (own_z (q2 < q0 ∧ q3 < q1))), .val (.int (own_z (q0 < q2 ∧ q1 < q3))), .val (.int (own_z (q0 < q0 ∧ q1 < q1))), .val (.int (1 : Int32)), .val (.int (1 : Int32)), .val (.int (1 : Int32)), .val (.int (1 : Int32))] [])) t
      refine XS.iload X11.here hx rfl (hb hby at_133) rfl ?_
      show Steps p.tables e below (T11.setTop (mkF m 135 #[.val (.long q0), .second, .val (.long q1), .second, .val (.long q2), .second, .val (.long q3), .second, .val (.ref b1), .val (.ref b3), .val (.ref b5), .val (.int (own_z (q2 < q0 ∧ q3 < q1))), .val (.int (own_z (q0 < q2 ∧ q1 < q3))), .val (.int (own_z (q0 < q0 ∧ q1 < q1))), .val (.int (1 : Int32)), .val (.int (1 : Int32)), .val (.int (1 : Int32)), .val (.int (1 : Int32))] [(.int (1 : Int32))])) t
      refine XS.ifNo X11.here hx rfl (hb hby at_135) rfl (by decide) ?_
      show Steps p.tables e below (T11.setTop (mkF m 138 #[.val (.long q0), .second, .val (.long q1), .second, .val (.long q2), .second, .val (.long q3), .second, .val (.ref b1), .val (.ref b3), .val (.ref b5), .val (.int (own_z (q2 < q0 ∧ q3 < q1))), .val (.int (own_z (q0 < q2 ∧ q1 < q3))), .val (.int (own_z (q0 < q0 ∧ q1 < q1))), .val (.int (1 : Int32)), .val (.int (1 : Int32)), .val (.int (1 : Int32)), .val (.int (1 : Int32))] [])) t
      refine XS.iload X11.here hx rfl (hb hby at_138) rfl ?_
      show Steps p.tables e below (T11.setTop (mkF m 140 #[.val (.long q0), .second, .val (.long q1), .second, .val (.long q2), .second, .val (.long q3), .second, .val (.ref b1), .val (.ref b3), .val (.ref b5), .val (.int (own_z (q2 < q0 ∧ q3 < q1))), .val (.int (own_z (q0 < q2 ∧ q1 < q3))), .val (.int (own_z (q0 < q0 ∧ q1 < q1))), .val (.int (1 : Int32)), .val (.int (1 : Int32)), .val (.int (1 : Int32)), .val (.int (1 : Int32))] [(.int (1 : Int32))])) t
      refine XS.ifNo X11.here hx rfl (hb hby at_140) rfl (by decide) ?_
      show Steps p.tables e below (T11.setTop (mkF m 143 #[.val (.long q0), .second, .val (.long q1), .second, .val (.long q2), .second, .val (.long q3), .second, .val (.ref b1), .val (.ref b3), .val (.ref b5), .val (.int (own_z (q2 < q0 ∧ q3 < q1))), .val (.int (own_z (q0 < q2 ∧ q1 < q3))), .val (.int (own_z (q0 < q0 ∧ q1 < q1))), .val (.int (1 : Int32)), .val (.int (1 : Int32)), .val (.int (1 : Int32)), .val (.int (1 : Int32))] [])) t
      refine XS.iload X11.here hx rfl (hb hby at_143) rfl ?_
      show Steps p.tables e below (T11.setTop (mkF m 145 #[.val (.long q0), .second, .val (.long q1), .second, .val (.long q2), .second, .val (.long q3), .second, .val (.ref b1), .val (.ref b3), .val (.ref b5), .val (.int (own_z (q2 < q0 ∧ q3 < q1))), .val (.int (own_z (q0 < q2 ∧ q1 < q3))), .val (.int (own_z (q0 < q0 ∧ q1 < q1))), .val (.int (1 : Int32)), .val (.int (1 : Int32)), .val (.int (1 : Int32)), .val (.int (1 : Int32))] [(.int (1 : Int32))])) t
      refine XS.ifNo X11.here hx rfl (hb hby at_145) rfl (by decide) ?_
      show Steps p.tables e below (T11.setTop (mkF m 148 #[.val (.long q0), .second, .val (.long q1), .second, .val (.long q2), .second, .val (.long q3), .second, .val (.ref b1), .val (.ref b3), .val (.ref b5), .val (.int (own_z (q2 < q0 ∧ q3 < q1))), .val (.int (own_z (q0 < q2 ∧ q1 < q3))), .val (.int (own_z (q0 < q0 ∧ q1 < q1))), .val (.int (1 : Int32)), .val (.int (1 : Int32)), .val (.int (1 : Int32)), .val (.int (1 : Int32))] [])) t
      refine XS.iload X11.here hx rfl (hb hby at_148) rfl ?_
      show Steps p.tables e below (T11.setTop (mkF m 150 #[.val (.long q0), .second, .val (.long q1), .second, .val (.long q2), .second, .val (.long q3), .second, .val (.ref b1), .val (.ref b3), .val (.ref b5), .val (.int (own_z (q2 < q0 ∧ q3 < q1))), .val (.int (own_z (q0 < q2 ∧ q1 < q3))), .val (.int (own_z (q0 < q0 ∧ q1 < q1))), .val (.int (1 : Int32)), .val (.int (1 : Int32)), .val (.int (1 : Int32)), .val (.int (1 : Int32))] [(.int (1 : Int32))])) t
      refine XS.ifNo X11.here hx rfl (hb hby at_150) rfl (by decide) ?_
      show Steps p.tables e below (T11.setTop (mkF m 153 #[.val (.long q0), .second, .val (.long q1), .second, .val (.long q2), .second, .val (.long q3), .second, .val (.ref b1), .val (.ref b3), .val (.ref b5), .val (.int (own_z (q2 < q0 ∧ q3 < q1))), .val (.int (own_z (q0 < q2 ∧ q1 < q3))), .val (.int (own_z (q0 < q0 ∧ q1 < q1))), .val (.int (1 : Int32)), .val (.int (1 : Int32)), .val (.int (1 : Int32)), .val (.int (1 : Int32))] [])) t
      refine XS.iconst X11.here hx rfl (hb hby at_153) ?_
      show Steps p.tables e below (T11.setTop (mkF m 154 #[.val (.long q0), .second, .val (.long q1), .second, .val (.long q2), .second, .val (.long q3), .second, .val (.ref b1), .val (.ref b3), .val (.ref b5), .val (.int (own_z (q2 < q0 ∧ q3 < q1))), .val (.int (own_z (q0 < q2 ∧ q1 < q3))), .val (.int (own_z (q0 < q0 ∧ q1 < q1))), .val (.int (1 : Int32)), .val (.int (1 : Int32)), .val (.int (1 : Int32)), .val (.int (1 : Int32))] [(.int (1 : Int32))])) t
      refine XS.goto X11.here hx rfl (pc0 := 154) (pc' := 158) rfl (hb hby at_154) (by decide) (by decide) ?_
      show Steps p.tables e below (T11.setTop (mkF m 158 #[.val (.long q0), .second, .val (.long q1), .second, .val (.long q2), .second, .val (.long q3), .second, .val (.ref b1), .val (.ref b3), .val (.ref b5), .val (.int (own_z (q2 < q0 ∧ q3 < q1))), .val (.int (own_z (q0 < q2 ∧ q1 < q3))), .val (.int (own_z (q0 < q0 ∧ q1 < q1))), .val (.int (1 : Int32)), .val (.int (1 : Int32)), .val (.int (1 : Int32)), .val (.int (1 : Int32))] [(.int (1 : Int32))])) t
      exact kt
    exact own_retN X11 hP hx hlk e11 (t := .boolean) hret (by simp) (hb hby at_158) (by decide) (by decide) (z' := (1 : Int32)) rfl ⟨rfl, N6⟩
  · refine own_go (T' := T11) (f' := (mkF m 158 #[.val (.long q0), .second, .val (.long q1), .second, .val (.long q2), .second, .val (.long q3), .second, .val (.ref b1), .val (.ref b3), .val (.ref b5), .val (.int (own_z (q2 < q0 ∧ q3 < q1))), .val (.int (own_z (q0 < q2 ∧ q1 < q3))), .val (.int (own_z (q0 < q0 ∧ q1 < q1))), .val (.int (1 : Int32)), .val (.int (1 : Int32)), .val (.int (1 : Int32)), .val (.int (1 : Int32))] [(.int (1 : Int32))])) (fun t kt => ?_) ?_
    · show Steps p.tables e below (T11.setTop (mkF m 118 #[.val (.long q0), .second, .val (.long q1), .second, .val (.long q2), .second, .val (.long q3), .second, .val (.ref b1), .val (.ref b3), .val (.ref b5), .val (.int (own_z (q2 < q0 ∧ q3 < q1))), .val (.int (own_z (q0 < q2 ∧ q1 < q3))), .val (.int (own_z (q0 < q0 ∧ q1 < q1))), .val (.int (1 : Int32)), .val (.int (1 : Int32)), .val (.int (1 : Int32)), .unset] [(.int (own_z (q2 < q0 ∧ q3 < q1)))])) t
      refine XS.ifYes X11.here hx rfl (pc0 := 118) (pc' := 126) rfl (hb hby at_118) rfl (own_zY_eq hc118_12) (by decide) (by decide) ?_
      show Steps p.tables e below (T11.setTop (mkF m 126 #[.val (.long q0), .second, .val (.long q1), .second, .val (.long q2), .second, .val (.long q3), .second, .val (.ref b1), .val (.ref b3), .val (.ref b5), .val (.int (own_z (q2 < q0 ∧ q3 < q1))), .val (.int (own_z (q0 < q2 ∧ q1 < q3))), .val (.int (own_z (q0 < q0 ∧ q1 < q1))), .val (.int (1 : Int32)), .val (.int (1 : Int32)), .val (.int (1 : Int32)), .unset] [])) t
      refine XS.iconst X11.here hx rfl (hb hby at_126) ?_
      show Steps p.tables e below (T11.setTop (mkF m 127 #[.val (.long q0), .second, .val (.long q1), .second, .val (.long q2), .second, .val (.long q3), .second, .val (.ref b1), .val (.ref b3), .val (.ref b5), .val (.int (own_z (q2 < q0 ∧ q3 < q1))), .val (.int (own_z (q0 < q2 ∧ q1 < q3))), .val (.int (own_z (q0 < q0 ∧ q1 < q1))), .val (.int (1 : Int32)), .val (.int (1 : Int32)), .val (.int (1 : Int32)), .unset] [(.int (1 : Int32))])) t
      refine XS.goto X11.here hx rfl (pc0 := 127) (pc' := 131) rfl (hb hby at_127) (by decide) (by decide) ?_
      show Steps p.tables e below (T11.setTop (mkF m 131 #[.val (.long q0), .second, .val (.long q1), .second, .val (.long q2), .second, .val (.long q3), .second, .val (.ref b1), .val (.ref b3), .val (.ref b5), .val (.int (own_z (q2 < q0 ∧ q3 < q1))), .val (.int (own_z (q0 < q2 ∧ q1 < q3))), .val (.int (own_z (q0 < q0 ∧ q1 < q1))), .val (.int (1 : Int32)), .val (.int (1 : Int32)), .val (.int (1 : Int32)), .unset] [(.int (1 : Int32))])) t
      refine XS.istore X11.here hx rfl (hb hby at_131) rfl (l' := #[.val (.long q0), .second, .val (.long q1), .second, .val (.long q2), .second, .val (.long q3), .second, .val (.ref b1), .val (.ref b3), .val (.ref b5), .val (.int (own_z (q2 < q0 ∧ q3 < q1))), .val (.int (own_z (q0 < q2 ∧ q1 < q3))), .val (.int (own_z (q0 < q0 ∧ q1 < q1))), .val (.int (1 : Int32)), .val (.int (1 : Int32)), .val (.int (1 : Int32)), .val (.int (1 : Int32))]) rfl ?_
      show Steps p.tables e below (T11.setTop (mkF m 133 #[.val (.long q0), .second, .val (.long q1), .second, .val (.long q2), .second, .val (.long q3), .second, .val (.ref b1), .val (.ref b3), .val (.ref b5), .val (.int (own_z (q2 < q0 ∧ q3 < q1))), .val (.int (own_z (q0 < q2 ∧ q1 < q3))), .val (.int (own_z (q0 < q0 ∧ q1 < q1))), .val (.int (1 : Int32)), .val (.int (1 : Int32)), .val (.int (1 : Int32)), .val (.int (1 : Int32))] [])) t
      refine XS.iload X11.here hx rfl (hb hby at_133) rfl ?_
      show Steps p.tables e below (T11.setTop (mkF m 135 #[.val (.long q0), .second, .val (.long q1), .second, .val (.long q2), .second, .val (.long q3), .second, .val (.ref b1), .val (.ref b3), .val (.ref b5), .val (.int (own_z (q2 < q0 ∧ q3 < q1))), .val (.int (own_z (q0 < q2 ∧ q1 < q3))), .val (.int (own_z (q0 < q0 ∧ q1 < q1))), .val (.int (1 : Int32)), .val (.int (1 : Int32)), .val (.int (1 : Int32)), .val (.int (1 : Int32))] [(.int (1 : Int32))])) t
      refine XS.ifNo X11.here hx rfl (hb hby at_135) rfl (by decide) ?_
      show Steps p.tables e below (T11.setTop (mkF m 138 #[.val (.long q0), .second, .val (.long q1), .second, .val (.long q2), .second, .val (.long q3), .second, .val (.ref b1), .val (.ref b3), .val (.ref b5), .val (.int (own_z (q2 < q0 ∧ q3 < q1))), .val (.int (own_z (q0 < q2 ∧ q1 < q3))), .val (.int (own_z (q0 < q0 ∧ q1 < q1))), .val (.int (1 : Int32)), .val (.int (1 : Int32)), .val (.int (1 : Int32)), .val (.int (1 : Int32))] [])) t
      refine XS.iload X11.here hx rfl (hb hby at_138) rfl ?_
      show Steps p.tables e below (T11.setTop (mkF m 140 #[.val (.long q0), .second, .val (.long q1), .second, .val (.long q2), .second, .val (.long q3), .second, .val (.ref b1), .val (.ref b3), .val (.ref b5), .val (.int (own_z (q2 < q0 ∧ q3 < q1))), .val (.int (own_z (q0 < q2 ∧ q1 < q3))), .val (.int (own_z (q0 < q0 ∧ q1 < q1))), .val (.int (1 : Int32)), .val (.int (1 : Int32)), .val (.int (1 : Int32)), .val (.int (1 : Int32))] [(.int (1 : Int32))])) t
      refine XS.ifNo X11.here hx rfl (hb hby at_140) rfl (by decide) ?_
      show Steps p.tables e below (T11.setTop (mkF m 143 #[.val (.long q0), .second, .val (.long q1), .second, .val (.long q2), .second, .val (.long q3), .second, .val (.ref b1), .val (.ref b3), .val (.ref b5), .val (.int (own_z (q2 < q0 ∧ q3 < q1))), .val (.int (own_z (q0 < q2 ∧ q1 < q3))), .val (.int (own_z (q0 < q0 ∧ q1 < q1))), .val (.int (1 : Int32)), .val (.int (1 : Int32)), .val (.int (1 : Int32)), .val (.int (1 : Int32))] [])) t
      refine XS.iload X11.here hx rfl (hb hby at_143) rfl ?_
      show Steps p.tables e below (T11.setTop (mkF m 145 #[.val (.long q0), .second, .val (.long q1), .second, .val (.long q2), .second, .val (.long q3), .second, .val (.ref b1), .val (.ref b3), .val (.ref b5), .val (.int (own_z (q2 < q0 ∧ q3 < q1))), .val (.int (own_z (q0 < q2 ∧ q1 < q3))), .val (.int (own_z (q0 < q0 ∧ q1 < q1))), .val (.int (1 : Int32)), .val (.int (1 : Int32)), .val (.int (1 : Int32)), .val (.int (1 : Int32))] [(.int (1 : Int32))])) t
      refine XS.ifNo X11.here hx rfl (hb hby at_145) rfl (by decide) ?_
      show Steps p.tables e below (T11.setTop (mkF m 148 #[.val (.long q0), .second, .val (.long q1), .second, .val (.long q2), .second, .val (.long q3), .second, .val (.ref b1), .val (.ref b3), .val (.ref b5), .val (.int (own_z (q2 < q0 ∧ q3 < q1))), .val (.int (own_z (q0 < q2 ∧ q1 < q3))), .val (.int (own_z (q0 < q0 ∧ q1 < q1))), .val (.int (1 : Int32)), .val (.int (1 : Int32)), .val (.int (1 : Int32)), .val (.int (1 : Int32))] [])) t
      refine XS.iload X11.here hx rfl (hb hby at_148) rfl ?_
      show Steps p.tables e below (T11.setTop (mkF m 150 #[.val (.long q0), .second, .val (.long q1), .second, .val (.long q2), .second, .val (.long q3), .second, .val (.ref b1), .val (.ref b3), .val (.ref b5), .val (.int (own_z (q2 < q0 ∧ q3 < q1))), .val (.int (own_z (q0 < q2 ∧ q1 < q3))), .val (.int (own_z (q0 < q0 ∧ q1 < q1))), .val (.int (1 : Int32)), .val (.int (1 : Int32)), .val (.int (1 : Int32)), .val (.int (1 : Int32))] [(.int (1 : Int32))])) t
      refine XS.ifNo X11.here hx rfl (hb hby at_150) rfl (by decide) ?_
      show Steps p.tables e below (T11.setTop (mkF m 153 #[.val (.long q0), .second, .val (.long q1), .second, .val (.long q2), .second, .val (.long q3), .second, .val (.ref b1), .val (.ref b3), .val (.ref b5), .val (.int (own_z (q2 < q0 ∧ q3 < q1))), .val (.int (own_z (q0 < q2 ∧ q1 < q3))), .val (.int (own_z (q0 < q0 ∧ q1 < q1))), .val (.int (1 : Int32)), .val (.int (1 : Int32)), .val (.int (1 : Int32)), .val (.int (1 : Int32))] [])) t
      refine XS.iconst X11.here hx rfl (hb hby at_153) ?_
      show Steps p.tables e below (T11.setTop (mkF m 154 #[.val (.long q0), .second, .val (.long q1), .second, .val (.long q2), .second, .val (.long q3), .second, .val (.ref b1), .val (.ref b3), .val (.ref b5), .val (.int (own_z (q2 < q0 ∧ q3 < q1))), .val (.int (own_z (q0 < q2 ∧ q1 < q3))), .val (.int (own_z (q0 < q0 ∧ q1 < q1))), .val (.int (1 : Int32)), .val (.int (1 : Int32)), .val (.int (1 : Int32)), .val (.int (1 : Int32))] [(.int (1 : Int32))])) t
      refine XS.goto X11.here hx rfl (pc0 := 154) (pc' := 158) rfl (hb hby at_154) (by decide) (by decide) ?_
      show Steps p.tables e below (T11.setTop (mkF m 158 #[.val (.long q0), .second, .val (.long q1), .second, .val (.long q2), .second, .val (.long q3), .second, .val (.ref b1), .val (.ref b3), .val (.ref b5), .val (.int (own_z (q2 < q0 ∧ q3 < q1))), .val (.int (own_z (q0 < q2 ∧ q1 < q3))), .val (.int (own_z (q0 < q0 ∧ q1 < q1))), .val (.int (1 : Int32)), .val (.int (1 : Int32)), .val (.int (1 : Int32)), .val (.int (1 : Int32))] [(.int (1 : Int32))])) t
      exact kt
    exact own_retN X11 hP hx hlk e11 (t := .boolean) hret (by simp) (hb hby at_158) (by decide) (by decide) (z' := (1 : Int32)) rfl ⟨rfl, N6⟩
set_option maxRecDepth 65536 in
set_option maxHeartbeats 40000000 in
theorem comes_1 {Post : Tables → Env → Array Value → State → Outcome → State → Prop} (hpost : ∀ tb e args s v u, (limb_1_1.after args s (.returned v) u = true ∧ limb_1_2.after args s (.returned v) u = true ∧ True) → FrameEnd s (.returned v) u (Jvm.fieldLocs frame_1_writes args s ++ Jvm.arrayLocs frame_1_arrays args s ++ Jvm.staticLocs frame_1_statics s) 16 128 → Post tb e args s (.returned v) u) :
    ArmFor flags0 classFile x code maxLocals ret World_1 tables_1 room_1 Calls_1 rest_1 Pre_1 Post := by
  intro l hfl _ _ p e ha hc hk s m args below hf hA hF happ hP
  obtain ⟨hcalls, hrest, hpre⟩ := hP
  obtain ⟨-, -, -, hnamed, -, -, -, hat⟩ := (Spec.applies_iff hf).mp happ
  obtain ⟨hg, hn⟩ := and_e (Cond.before_iff.mp (show (Jvm.Cond.and given_1 narrow_1).before args s = true from hpre))
  obtain ⟨k1, k2⟩ := and_e hg
  obtain ⟨k3, k4⟩ := and_e k2
  obtain ⟨k5, k6⟩ := and_e k4
  obtain ⟨k7, k8⟩ := and_e k6
  obtain ⟨w0, w1, w2, w3, rfl⟩ : ∃ w0 w1 w2 w3 : Value, args = #[w0, w1, w2, w3] := by
    have hs : args.size = 4 := by simpa [Cond.value, given_1] using k1
    obtain ⟨L⟩ := args
    match L, hs with
    | [w0, w1, w2, w3], _ => exact ⟨w0, w1, w2, w3, rfl⟩
  have hw := fun d (hd : d ∈ tables_1) => atoms_spec (ws := Jvm.Cond.code x code maxLocals ret :: tables_1) hat d (List.mem_cons_of_mem _ hd)
  obtain ⟨i0, ei0⟩ := isL_v k3
  obtain rfl : w0 = (.long i0) := Option.some.inj ei0
  obtain ⟨i1, ei1⟩ := isL_v k5
  obtain rfl : w1 = (.long i1) := Option.some.inj ei1
  obtain ⟨i2, ei2⟩ := isL_v k7
  obtain rfl : w2 = (.long i2) := Option.some.inj ei2
  obtain ⟨i3, ei3⟩ := isL_v k8
  obtain rfl : w3 = (.long i3) := Option.some.inj ei3
  obtain ⟨n, o, h1, h2, h3, _, L, rfl, ⟨rfl, N⟩, hq⟩ := rm0 l s _ hw (ws := tables_1) i0 i1 i2 i3 s.heap s.heap.size (Nat.le_refl _)  p e ha hc hk s m _ below hf ((Spec.applies_iff_loose hf).mp happ).1 ⟨rfl, State.Warmed39.refl s, rfl⟩ trivial
  refine ⟨n, _, h1, h2, h3, hpost _ _ _ _ _ _ ⟨Cond.after_iff.mpr rfl, Cond.after_iff.mpr (eq_i res_at (Term.int_eval (1)) rfl), trivial⟩ ⟨hq.1, hq.2.1, (hq.2.2.sift fun y hy => Or.inr (N y hy)).mono (by decide) (by decide)⟩⟩
theorem main_1_1 : Claimed_1_1 := comes_1 fun _ _ _ _ _ _ h hF => ⟨h.1, hF⟩
theorem main_1_2 : Claimed_1_2 := comes_1 fun _ _ _ _ _ _ h hF => ⟨h.2.1, hF⟩
end Jvm.Pilot.@@N@@
namespace Jvm.Pilot.@@N@@
open Jvm Jvm.ClassFile Sem Op Lib Jvm.Free Jvm.Stand Jvm.Pilot.@@N@@.Jvm.D
/-! MADE BY PROGRAM (witnessworld.py) out of the Statement's table words and the real class files: 10 classes; the members and pool entries that the words name. The judged class is class 1, her method 2. -/
namespace start1
open Jvm.ClassFile
def u (s : String) : CpInfo := .utf8 (stringToUtf16 s)
/-- a pool by its gaps: so many unusable entries, then the entry; so many at the end -/
def gap : Nat → List CpInfo → List CpInfo
  | 0, r => r
  | n + 1, r => .unusable :: gap n r
def poolList (es : List (Nat × CpInfo)) (last : Nat) : List CpInfo := es.foldr (fun e r => gap e.1 (e.2 :: r)) (gap last [])
def pool (es : List (Nat × CpInfo)) (last : Nat) : Array CpInfo := ⟨poolList es last⟩
def fileOf (pool : Array CpInfo) (this : Nat) (attrs : Array Attribute := #[]) (ms : Array MethodInfo := #[]) (fl : Nat := 33) (sup : Nat := 0) (ifs : Array Nat := #[]) (fds : Array FieldInfo := #[]) : ClassFile where
  minorVersion := 0
  majorVersion := 65
  constantPool := pool
  accessFlags := fl
  thisClass := this
  superClass := sup
  interfaces := ifs
  fields := fds
  methods := ms
  attributes := attrs
def plain (name : String) (sup : Option ClassId) : Class where
  name := name
  kind := .ordinary
  loader := none
  accessFlags := 33
  super := sup
  interfaces := #[]
  cf := none
  fields := #[]
  methods := #[]
  instanceTypes := #[]
  staticTypes := #[]
  resolved := #[]
  callSites := []
  init := .initialized
  statics := none
  mirror := none

def pool0 : Array CpInfo := pool [(5, u "<init>"), (0, u "()V"), (1, .class_ 10), (1, u "java/lang/Object")] 113

def k0c0 : Code := { maxStack := 0, maxLocals := 1, code := object_method_1_code, exceptionTable := #[], attributes := #[] }
def k0m0 : Method := { name := "<init>", desc := "()V", sig := { parameters := [], returnType := none }, accessFlags := 1, code := some k0c0 }
/-- java/lang/Object -/
def k0 : Class := { plain "java/lang/Object" none with
  accessFlags := 33
  interfaces := #[]
  cf := some (fileOf pool0 8 #[] #[{ accessFlags := 1, nameIndex := 5, descriptorIndex := 6, attributes := #[] }] 33 0 #[] #[])
  fields := #[]
  methods := #[k0m0]
  instanceTypes := #[]
  staticTypes := #[]
  resolved := Array.replicate 124 none
  statics := none }

def pool1 : Array CpInfo := pool [(2, .class_ 4), (1, u "java/lang/Object"), (0, u "<init>"), (0, u "()V"), (0, .class_ 8), (0, u "com/example/commit_log_store/commitlogstore/io/OffsetIndex$Entry"), (0, .methodref 7 10), (0, .nameAndType 5 11), (0, u "(JJ)V"), (0, .methodref 7 13), (0, .nameAndType 14 15), (0, u "risesPast"), (0, u "(Lcom/example/commit_log_store/commitlogstore/io/OffsetIndex$Entry;)Z"), (0, .methodref 17 18), (0, .class_ 19), (0, .nameAndType 20 21), (0, u "com/example/commit_log_store/commitlogstore/io/EntryRisesPastPinLaw"), (0, u "strictlyAbove"), (0, u "(JJJJ)Z"), (3, u "law")] 6

def k1m0 : Method := { name := "<init>", desc := "()V", sig := { parameters := [], returnType := none }, accessFlags := 2, code := none }
def k1c1 : Code := { maxStack := 4, maxLocals := 8, code := method_2_code, exceptionTable := #[], attributes := #[] }
def k1m1 : Method := { name := "strictlyAbove", desc := "(JJJJ)Z", sig := { parameters := [.long, .long, .long, .long], returnType := some .boolean }, accessFlags := 10, code := some k1c1 }
def k1c2 : Code := { maxStack := 9, maxLocals := 18, code := code, exceptionTable := #[], attributes := #[] }
def k1m2 : Method := { name := "law", desc := "(JJJJ)Z", sig := { parameters := [.long, .long, .long, .long], returnType := some .boolean }, accessFlags := 9, code := some k1c2 }
/-- com/example/commit_log_store/commitlogstore/io/EntryRisesPastPinLaw -/
def k1 : Class := { plain "com/example/commit_log_store/commitlogstore/io/EntryRisesPastPinLaw" (some 0) with
  accessFlags := 49
  interfaces := #[]
  cf := some (fileOf pool1 17 #[] #[{ accessFlags := 2, nameIndex := 5, descriptorIndex := 6, attributes := #[] }, { accessFlags := 10, nameIndex := 20, descriptorIndex := 21, attributes := #[] }, { accessFlags := 9, nameIndex := 25, descriptorIndex := 21, attributes := #[] }] 49 2 #[] #[])
  fields := #[]
  methods := #[k1m0, k1m1, k1m2]
  instanceTypes := #[]
  staticTypes := #[]
  resolved := Array.replicate 32 none
  statics := none }

def pool2 : Array CpInfo := pool [(1, .methodref 2 3), (0, .class_ 4), (0, .nameAndType 5 6), (0, u "java/lang/Object"), (0, u "<init>"), (0, u "()V"), (0, .class_ 8), (0, u "java/lang/Record")] 13

def k2c0 : Code := { maxStack := 1, maxLocals := 1, code := jdk_30_method_1_code, exceptionTable := #[], attributes := #[] }
def k2m0 : Method := { name := "<init>", desc := "()V", sig := { parameters := [], returnType := none }, accessFlags := 4, code := some k2c0 }
/-- java/lang/Record -/
def k2 : Class := { plain "java/lang/Record" (some 0) with
  accessFlags := 1057
  interfaces := #[]
  cf := some (fileOf pool2 7 #[] #[{ accessFlags := 4, nameIndex := 5, descriptorIndex := 6, attributes := #[] }] 1057 2 #[] #[])
  fields := #[]
  methods := #[k2m0]
  instanceTypes := #[]
  staticTypes := #[]
  resolved := Array.replicate 22 none
  statics := none }

def pool3 : Array CpInfo := pool [(1, .methodref 2 3), (0, .class_ 4), (0, .nameAndType 5 6), (0, u "java/lang/Record"), (0, u "<init>"), (0, u "()V"), (0, .fieldref 8 9), (0, .class_ 10), (0, .nameAndType 11 12), (0, u "com/example/commit_log_store/commitlogstore/io/OffsetIndex$Entry"), (0, u "offset"), (0, u "J"), (0, .fieldref 8 14), (0, .nameAndType 15 12), (0, u "position"), (12, u "(JJ)V"), (6, u "risesPast"), (0, u "(Lcom/example/commit_log_store/commitlogstore/io/OffsetIndex$Entry;)Z"), (7, .class_ 45), (0, u "com/example/commit_log_store/commitlogstore/io/OffsetIndex")] 20

def k3c0 : Code := { maxStack := 3, maxLocals := 5, code := prog_40_method_1_code, exceptionTable := #[], attributes := #[] }
def k3m0 : Method := { name := "<init>", desc := "(JJ)V", sig := { parameters := [.long, .long], returnType := none }, accessFlags := 1, code := some k3c0 }
def k3c1 : Code := { maxStack := 4, maxLocals := 2, code := prog_40_method_3_code, exceptionTable := #[], attributes := #[] }
def k3m1 : Method := { name := "risesPast", desc := "(Lcom/example/commit_log_store/commitlogstore/io/OffsetIndex$Entry;)Z", sig := { parameters := [(.object "com/example/commit_log_store/commitlogstore/io/OffsetIndex$Entry")], returnType := some .boolean }, accessFlags := 1, code := some k3c1 }
/-- com/example/commit_log_store/commitlogstore/io/OffsetIndex$Entry -/
def k3 : Class := { plain "com/example/commit_log_store/commitlogstore/io/OffsetIndex$Entry" (some 2) with
  accessFlags := 49
  interfaces := #[]
  cf := some (fileOf pool3 8 #[.nestHost 44] #[{ accessFlags := 1, nameIndex := 5, descriptorIndex := 28, attributes := #[] }, { accessFlags := 1, nameIndex := 35, descriptorIndex := 36, attributes := #[] }] 49 2 #[] #[{ accessFlags := 18, nameIndex := 11, descriptorIndex := 12, attributes := #[] }, { accessFlags := 18, nameIndex := 15, descriptorIndex := 12, attributes := #[] }])
  fields := #[{ name := "offset", type := .long, accessFlags := 18, slot := 0, constantValue := 0 }, { name := "position", type := .long, accessFlags := 18, slot := 1, constantValue := 0 }]
  methods := #[k3m0, k3m1]
  instanceTypes := #[.long, .long]
  staticTypes := #[]
  resolved := Array.replicate 66 none
  statics := none }

def pool4 : Array CpInfo := pool [(1, u "java/lang/Cloneable"), (0, .class_ 1), (0, u "java/lang/Object"), (0, .class_ 3)] 3

/-- java/lang/Cloneable -/
def k4 : Class := { plain "java/lang/Cloneable" (some 0) with
  accessFlags := 1537
  interfaces := #[]
  cf := some (fileOf pool4 2 #[] #[] 1537 4 #[] #[])
  fields := #[]
  methods := #[]
  instanceTypes := #[]
  staticTypes := #[]
  resolved := Array.replicate 8 none
  statics := none }

def pool5 : Array CpInfo := pool [(1, u "java/io/Serializable"), (0, .class_ 1), (0, u "java/lang/Object"), (0, .class_ 3)] 3

/-- java/io/Serializable -/
def k5 : Class := { plain "java/io/Serializable" (some 0) with
  accessFlags := 1537
  interfaces := #[]
  cf := some (fileOf pool5 2 #[] #[] 1537 4 #[] #[])
  fields := #[]
  methods := #[]
  instanceTypes := #[]
  staticTypes := #[]
  resolved := Array.replicate 8 none
  statics := none }

/-- the primitive byte -/
def k6 : Class := { plain "byte" none with kind := .primitive 'B', accessFlags := 0x411 }
/-- [B -/
def k7 : Class := { plain "[B" (some 0) with kind := .array 6 .byte, interfaces := #[4, 5], accessFlags := 1041 }

/-- the primitive int -/
def k8 : Class := { plain "int" none with kind := .primitive 'I', accessFlags := 0x411 }
/-- [I -/
def k9 : Class := { plain "[I" (some 0) with kind := .array 8 .int, interfaces := #[4, 5], accessFlags := 1041 }

def heap : Heap := #[]
def classes : Array Class := #[k0, k1, k2, k3, k4, k5, k6, k7, k8, k9]
def interned : List (Array UInt16 × Addr) := []
def slotsUsed : Nat := 0
def theMethod : MethodId := ⟨1, 2⟩
def args0 : Array Value := #[.long 5, .long 6, .long 7, .long 8]
def aboutOver (below : List Frame) : State where
  vm := { classes := classes, interned := interned.toArray }
  heap := heap
  slotsUsed := slotsUsed
  threads := #[{ frames := .invoking theMethod args0 :: below }]
def below0 : List Frame := [.native { method := ⟨0, 0⟩, args := #[] }]
def about1 : State := aboutOver below0
def p0 : Program := .bare "" "" ""
def e0 : Env := launch0.env 0 0 0
theorem w_frames : about1.frames = Frame.invoking theMethod args0 :: below0 := rfl
set_option maxRecDepth 65536 in
theorem w_args : argsFit about1.vm theMethod args0 = true := by decide +kernel
set_option maxRecDepth 65536 in
theorem w_heap : heapFits about1 = true := by decide +kernel
set_option maxRecDepth 65536 in
theorem w_runnable : about1.curStatus? = some .runnable := by decide +kernel
set_option maxRecDepth 65536 in
theorem w_alone : about1.alone = true := by decide +kernel
set_option maxRecDepth 65536 in
theorem w_named : about1.methodNamed? x = some theMethod := by decide +kernel
set_option maxRecDepth 65536 in
theorem w_hears : about1.hears theMethod below0 = true := by decide +kernel
set_option maxRecDepth 65536 in
theorem w_ripe : about1.ripe theMethod args0 below0 = true := by decide +kernel
theorem w_running : about1.status = .running := rfl
set_option maxRecDepth 65536 in
theorem w_room : about1.hasRoom e0.platform room_1 = true :=
  launch0.hasRoom_least _ room_1 (by decide +kernel) (by decide +kernel) (by decide +kernel) (by decide +kernel) (by decide +kernel) (by decide +kernel)
theorem allAtoms_all (ts : List Jvm.Cond) (a : Array Jvm.Value) (st : Jvm.State) : (allAtoms ts).before a st = ts.all (fun c => c.before a st) := by
  induction ts with
  | nil => rfl
  | cons c t ih =>
    show (Jvm.Cond.and c (allAtoms t)).before a st = _
    rw [Jvm.Cond.before_and, ih, List.all_cons]
def words1 : List Jvm.Cond := Jvm.Cond.code x code maxLocals ret :: tables_1
/-- a 'code' word, met by the world's own term for the bytes: nothing is compared byte by byte -/
theorem code_word {y : MethodName} {bytes : ByteArray} {mx : Nat} {rt : Option FieldType} {a : Array Value} {s : State} {m : MethodId} {meth : Method} {c : Code} (h1 : s.methodNamed? y = some m) (h2 : s.vm.method? m = some meth) (h3 : meth.code = some c) (h4 : c.code = bytes)
    (h5 : (c.maxLocals == mx && c.exceptionTable.isEmpty && decide (c.maxStack ≤ mostOperands) && decide (meth.sig.returnType = rt) && !meth.locks && decide (parseMethodDescriptor y.desc = some meth.sig)) = true) : (Jvm.Cond.code y bytes mx rt).before a s = true := by
  simp only [Bool.and_eq_true, beq_iff_eq, Bool.not_eq_true', decide_eq_true_eq] at h5
  obtain ⟨⟨⟨⟨⟨g1, g2⟩, g3⟩, g4⟩, g5⟩, g6⟩ := h5
  simp [Cond.before, Cond.holds, Cond.value, h1, h2, h3, h4, g1, g2, g3, g4, g5, g6]
def isCode : Jvm.Cond → Bool
  | .code _ _ _ _ => true
  | _ => false
theorem all_split {L : List Jvm.Cond} {P : Jvm.Cond → Bool} (h1 : L.all (fun c => isCode c || P c) = true) (h2 : ∀ c ∈ L.filter isCode, P c = true) : L.all P = true := by
  refine List.all_eq_true.mpr fun c hc => ?_
  have h := List.all_eq_true.mp h1 c hc
  rcases Bool.eq_false_or_eq_true (isCode c) with hi | hi
  · exact h2 c (List.mem_filter.mpr ⟨hc, hi⟩)
  · simpa [hi] using h
set_option maxRecDepth 65536 in
theorem w_c0 : (Jvm.Cond.code x code maxLocals ret).before args0 about1 = true := code_word (m := ⟨1, 2⟩) (meth := k1m2) (c := k1c2) (by decide +kernel) rfl rfl rfl (by decide +kernel)
set_option maxRecDepth 65536 in
theorem w_c1 : (Jvm.Cond.code ({ cls := "com/example/commit_log_store/commitlogstore/io/OffsetIndex$Entry", name := "<init>", desc := "(JJ)V" } : Jvm.MethodName) prog_40_method_1_code (5 : Nat) (Option.none : Option Jvm.ClassFile.FieldType)).before args0 about1 = true := code_word (m := ⟨3, 0⟩) (meth := k3m0) (c := k3c0) (by decide +kernel) rfl rfl rfl (by decide +kernel)
set_option maxRecDepth 65536 in
theorem w_c2 : (Jvm.Cond.code ({ cls := "java/lang/Record", name := "<init>", desc := "()V" } : Jvm.MethodName) jdk_30_method_1_code (1 : Nat) (Option.none : Option Jvm.ClassFile.FieldType)).before args0 about1 = true := code_word (m := ⟨2, 0⟩) (meth := k2m0) (c := k2c0) (by decide +kernel) rfl rfl rfl (by decide +kernel)
set_option maxRecDepth 65536 in
theorem w_c3 : (Jvm.Cond.code ({ cls := "java/lang/Object", name := "<init>", desc := "()V" } : Jvm.MethodName) object_method_1_code (1 : Nat) (Option.none : Option Jvm.ClassFile.FieldType)).before args0 about1 = true := code_word (m := ⟨0, 0⟩) (meth := k0m0) (c := k0c0) (by decide +kernel) rfl rfl rfl (by decide +kernel)
set_option maxRecDepth 65536 in
theorem w_c4 : (Jvm.Cond.code ({ cls := "com/example/commit_log_store/commitlogstore/io/OffsetIndex$Entry", name := "risesPast", desc := "(Lcom/example/commit_log_store/commitlogstore/io/OffsetIndex$Entry;)Z" } : Jvm.MethodName) prog_40_method_3_code (2 : Nat) (Option.some Jvm.ClassFile.FieldType.boolean)).before args0 about1 = true := code_word (m := ⟨3, 1⟩) (meth := k3m1) (c := k3c1) (by decide +kernel) rfl rfl rfl (by decide +kernel)
set_option maxRecDepth 65536 in
theorem w_c5 : (Jvm.Cond.code ({ cls := "com/example/commit_log_store/commitlogstore/io/EntryRisesPastPinLaw", name := "strictlyAbove", desc := "(JJJJ)Z" } : Jvm.MethodName) method_2_code (8 : Nat) (Option.some Jvm.ClassFile.FieldType.boolean)).before args0 about1 = true := code_word (m := ⟨1, 1⟩) (meth := k1m1) (c := k1c1) (by decide +kernel) rfl rfl rfl (by decide +kernel)
def codes1 : List Jvm.Cond := [Jvm.Cond.code x code maxLocals ret, Jvm.Cond.code ({ cls := "com/example/commit_log_store/commitlogstore/io/OffsetIndex$Entry", name := "<init>", desc := "(JJ)V" } : Jvm.MethodName) prog_40_method_1_code (5 : Nat) (Option.none : Option Jvm.ClassFile.FieldType), Jvm.Cond.code ({ cls := "java/lang/Record", name := "<init>", desc := "()V" } : Jvm.MethodName) jdk_30_method_1_code (1 : Nat) (Option.none : Option Jvm.ClassFile.FieldType), Jvm.Cond.code ({ cls := "java/lang/Object", name := "<init>", desc := "()V" } : Jvm.MethodName) object_method_1_code (1 : Nat) (Option.none : Option Jvm.ClassFile.FieldType), Jvm.Cond.code ({ cls := "com/example/commit_log_store/commitlogstore/io/OffsetIndex$Entry", name := "risesPast", desc := "(Lcom/example/commit_log_store/commitlogstore/io/OffsetIndex$Entry;)Z" } : Jvm.MethodName) prog_40_method_3_code (2 : Nat) (Option.some Jvm.ClassFile.FieldType.boolean), Jvm.Cond.code ({ cls := "com/example/commit_log_store/commitlogstore/io/EntryRisesPastPinLaw", name := "strictlyAbove", desc := "(JJJJ)Z" } : Jvm.MethodName) method_2_code (8 : Nat) (Option.some Jvm.ClassFile.FieldType.boolean)]
set_option maxRecDepth 65536 in
theorem codes_eq : words1.filter isCode = codes1 := rfl
theorem w_codes : ∀ c ∈ words1.filter isCode, c.before args0 about1 = true := by
  rw [codes_eq]
  intro c hc
  simp only [codes1, List.mem_cons, List.not_mem_nil, or_false] at hc
  rcases hc with rfl | rfl | rfl | rfl | rfl | rfl
  · exact w_c0
  · exact w_c1
  · exact w_c2
  · exact w_c3
  · exact w_c4
  · exact w_c5
set_option maxRecDepth 65536 in
theorem w_t1 : (words1.take 24).all (fun c => isCode c || c.before args0 about1) = true := by decide +kernel
set_option maxRecDepth 65536 in
theorem w_t2 : (words1.drop 24).all (fun c => isCode c || c.before args0 about1) = true := by decide +kernel
theorem w_tables : (allAtoms (Jvm.Cond.code x code maxLocals ret :: tables_1)).before args0 about1 = true := by
  rw [allAtoms_all]
  show words1.all (fun c => c.before args0 about1) = true
  refine all_split ?_ w_codes
  rw [← List.take_append_drop 24 words1, List.all_append, w_t1, w_t2]
  rfl
set_option maxRecDepth 65536 in
theorem w_case : (Jvm.Cond.and given_1 narrow_1).before args0 about1 = true := by decide +kernel
theorem w_applies : (headSpec (Jvm.Cond.code x code maxLocals ret :: tables_1) room_1).applies x e0.platform about1 = true :=
  (Spec.applies_iff w_frames).mpr ⟨w_running, w_runnable, w_alone, w_named, w_hears, w_ripe, w_room, w_tables⟩
theorem atStart : AtStart classFile x code maxLocals ret World_1 tables_1 room_1 Calls_1 rest_1 Pre_1 launch0 p0 e0 about1 theMethod args0 below0 :=
  ⟨lists_1, trivial, launch0.admits_env _ _ _, launch0.least_env, fairChoices_fair.cas, fairChoices_fair.clock, w_frames, w_args, w_heap, w_applies, trivial, trivial, w_case⟩
end start1
theorem witness_1 : WitnessClaimed_1 := ⟨start1.p0, start1.e0, start1.about1, start1.theMethod, start1.args0, start1.below0, start1.atStart⟩
end Jvm.Pilot.@@N@@
