import JvmDerived
import JvmDerived.Pilot.@@N@@Statement
import JvmDerived.Pilot.@@N@@Code
set_option linter.unusedVariables false
set_option linter.unusedSimpArgs false
@@BLOCK:NumsL.lean.txt@@
namespace Jvm.Pilot.@@N@@
open Jvm Jvm.ClassFile Sem Op Lib Jvm.Free Jvm.Stand Jvm.LawKit Jvm.RoadKit Bundle Jvm.Pilot.@@N@@.Jvm.D
/-! own layer: the run from here ends, and Q holds of what it returned, of the heap and of the places written -/
def own_End (p : Program) (e : Env) (below : List Frame) (P : State → Outcome → Prop) (T : State) (f : JFrame) : Prop := ∃ s₂ o, Steps p.tables e below (T.setTop f) s₂ ∧ P s₂ o
def own_P (below : List Frame) (s : State) (Q : Option Value → Heap → List Loc → Prop) (kc ns : Nat) : State → Outcome → Prop := fun s₂ o => s₂.status = .running ∧ Ended s₂ below o ∧ ∃ v L, o = .returned v ∧ Q v s₂.heap L ∧ FrameEnd s o s₂ L kc ns
def own_Met (l : Launch) (Z : State) (y : MethodName) (bytes : ByteArray) (maxL : Nat) (ret : Option FieldType) (ws : List Jvm.Cond) (rm : Room) (as' : Array Value) (h : Heap) (Q : Option Value → Heap → List Loc → Prop) : Prop :=
  MetFree l y (head1 (Jvm.Cond.code y bytes maxL ret :: ws) rm) (fun a U => a = as' ∧ Z.Warmed39 U.vm ∧ U.heap = h) (fun _ _ _ _ _ => True) (fun _ U o U' => ∃ v L, o = .returned v ∧ Q v U'.heap L ∧ FrameEnd U o U' L rm.cells rm.slots)
section OwnSteps
variable {p : Program} {l : Launch} {e : Env} {R : Room} {s : State} {m : MethodId} {args : Array Value} {below : List Frame} {meth : Method} {c : Code} {T : State} {locs : List Loc} {cells slots : Nat} {P : State → Outcome → Prop} {Q : Option Value → Heap → List Loc → Prop} {kc ns : Nat} {Z : State} {a0 : Array Value} {h : Heap} {f : JFrame}
theorem own_go {T' : State} {f' : JFrame} (st : ∀ t, Steps p.tables e below (T'.setTop f') t → Steps p.tables e below (T.setTop f) t) (k : own_End p e below P T' f') : own_End p e below P T f := by
  obtain ⟨s₂, o, h1, h2⟩ := k
  exact ⟨s₂, o, st _ h1, h2⟩
theorem own_via {T' : State} {f' : JFrame} (st : Steps p.tables e below (T.setTop f) (T'.setTop f')) (k : own_End p e below P T' f') : own_End p e below P T f := own_go (fun _ h => st.trans h) k
theorem own_exf (h : False) : own_End p e below P T f := h.elim
theorem own_body {y : MethodName} {bytes : ByteArray} {maxL : Nat} {ret : Option FieldType} {ws : List Jvm.Cond} {rm : Room} {as' : Array Value} (hpl : plainFor y = true)
    (body : ∀ (p : Program) (e : Env) (s : State) (m : MethodId) (below : List Frame) (meth : Method) (c : Code) (s₁ : State), p.tables.exec = Jvm.exec → Z.Warmed39 s.vm → c.code = bytes → c.maxLocals = maxL → s.vm.findClass y.cls = some m.cls → meth.name = y.name → meth.sig.returnType = ret → meth.locks = false →
      Stand p l e rm s m as' below meth c s₁ [] 0 0 → s₁.heap = h → own_End p e below (own_P below s Q rm.cells rm.slots) s₁ (entryFrame m as' maxL)) : own_Met l Z y bytes maxL ret ws rm as' h Q := by
  refine MetFree.of_bodySF hpl hisR ?_
  intro p e s m args below meth c s₁ Bd hml0 hP hK
  obtain ⟨rfl, hZ, hh⟩ := hP
  exact body p e s m below meth c s₁ Bd.exec hZ Bd.bytes hml0 (findClass_of_methodNamed Bd.named) (name_of_methodNamed Bd.named Bd.method).1 Bd.returns Bd.notSynchronized (Stand.of_body Bd) (by rw [← hh, Bd.state]; rfl)
theorem own_cast {g g' : JFrame} (q : g = g') (k : own_End p e below P T g') : own_End p e below P T g := q ▸ k
theorem own_ret (X : Stand p l e R s m args below meth c T locs cells slots) (hP : P = own_P below s Q kc ns) (hlk : meth.locks = false) (eT : T.heap = h) {v : Option Value} (hv : meth.sig.returnType = none → v = none) (hk : cells ≤ kc) (hn : slots ≤ ns) (hQ : Q v h locs)
    (st : ∀ fs, (∀ (f : JFrame) (acts : List Action), f.method = m → f.locked = none → f.entered = [] → (doReturn e (T.setTop f) acts v).1 = T.setFrames fs) → Steps p.tables e below (T.setTop f) (T.setFrames fs)) : own_End p e below P T f := by
  obtain ⟨fs, hr, hrun, hended, hW, hsame⟩ := X.leave hv hlk
  subst hP
  exact ⟨_, _, st fs hr, hrun, hended, _, _, rfl, (eT ▸ hQ : Q v T.heap locs), ⟨_, rfl⟩, hW, hsame.mono hk hn⟩
theorem own_retV (X : Stand p l e R s m args below meth c T locs cells slots) (hP : P = own_P below s Q kc ns) (hx : p.tables.exec = Jvm.exec) (hlk : meth.locks = false) (eT : T.heap = h) {pc : Nat} {Ls : Array Slot} (hret : meth.sig.returnType = none) (hd : decode c.code pc = .ok (.return_, 1)) (hk : cells ≤ kc) (hn : slots ≤ ns) (hQ : Q none h locs) :
    own_End p e below P T (mkF m pc Ls []) := own_ret X hP hlk eT (fun _ => rfl) hk hn hQ fun _ hr => X.returnOut hx hret hd hr
theorem own_retI (X : Stand p l e R s m args below meth c T locs cells slots) (hP : P = own_P below s Q kc ns) (hx : p.tables.exec = Jvm.exec) (hlk : meth.locks = false) (eT : T.heap = h) {pc : Nat} {Ls : Array Slot} {z : Int32} {rest : List Value} (hret : meth.sig.returnType = some .int) (hd : decode c.code pc = .ok (.ireturn, 1)) (hk : cells ≤ kc) (hn : slots ≤ ns) (hQ : Q (some (.int z)) h locs) :
    own_End p e below P T (mkF m pc Ls (.int z :: rest)) := own_ret X hP hlk eT (fun h => by rw [hret] at h; cases h) hk hn hQ fun fs hr => retOut X hx hret rfl (Or.inl ⟨rfl, Or.inl rfl, z, rfl⟩) hd hr
theorem own_retN (X : Stand p l e R s m args below meth c T locs cells slots) (hP : P = own_P below s Q kc ns) (hx : p.tables.exec = Jvm.exec) (hlk : meth.locks = false) (eT : T.heap = h) {pc : Nat} {Ls : Array Slot} {z : Int32} {rest : List Value} {t : FieldType} (hret : meth.sig.returnType = some t) (ht : t = .boolean ∨ t = .byte ∨ t = .char ∨ t = .short) (hd : decode c.code pc = .ok (.ireturn, 1)) (hk : cells ≤ kc) (hn : slots ≤ ns) {z' : Int32} (hz : nar t z = z') (hQ : Q (some (.int z')) h locs) :
    own_End p e below P T (mkF m pc Ls (.int z :: rest)) := by
  subst hz
  exact own_ret X hP hlk eT (fun h => by rw [hret] at h; cases h) hk hn hQ fun fs hr => retN X hx hret ht hd hr
theorem own_retJ (X : Stand p l e R s m args below meth c T locs cells slots) (hP : P = own_P below s Q kc ns) (hx : p.tables.exec = Jvm.exec) (hlk : meth.locks = false) (eT : T.heap = h) {pc : Nat} {Ls : Array Slot} {z : Int64} {rest : List Value} (hret : meth.sig.returnType = some .long) (hd : decode c.code pc = .ok (.lreturn, 1)) (hk : cells ≤ kc) (hn : slots ≤ ns) (hQ : Q (some (.long z)) h locs) :
    own_End p e below P T (mkF m pc Ls (.long z :: rest)) := own_ret X hP hlk eT (fun h => by rw [hret] at h; cases h) hk hn hQ fun fs hr => retOut X hx hret rfl (Or.inr (Or.inl ⟨rfl, rfl, z, rfl⟩)) hd hr
theorem own_retA (X : Stand p l e R s m args below meth c T locs cells slots) (hP : P = own_P below s Q kc ns) (hx : p.tables.exec = Jvm.exec) (hlk : meth.locks = false) (eT : T.heap = h) {pc : Nat} {Ls : Array Slot} {w : Value} {rest : List Value} {t : FieldType} (hret : meth.sig.returnType = some t) (ht : t.isReference = true) (hw : w.isRef = true) (hnr : narrow t w = w) (hd : decode c.code pc = .ok (.areturn, 1)) (hk : cells ≤ kc) (hn : slots ≤ ns) (hQ : Q (some w) h locs) :
    own_End p e below P T (mkF m pc Ls (w :: rest)) := own_ret X hP hlk eT (fun h => by rw [hret] at h; cases h) hk hn hQ fun fs hr => retOut X hx hret hnr (Or.inr (Or.inr (Or.inr (Or.inr ⟨rfl, ht, hw⟩)))) hd hr
theorem own_callS (X : Stand p l e R s m args below meth c T locs cells slots) (hx : p.tables.exec = Jvm.exec) (hZ : Z.Warmed39 s.vm) {own : String} (hown : s.vm.findClass own = some m.cls) (eT : T.heap = h) {index : Nat} {y : MethodName} {bytes : ByteArray} {maxL : Nat} {ret : Option FieldType} {rm : Room} {as' : Array Value} {Q' : Option Value → Heap → List Loc → Prop}
    (w1 : (Cond.methodLink own index y).before a0 Z = true) (w2 : (Cond.static y).before a0 Z = true) (w3 : (Cond.initialized y.cls).before a0 Z = true) (w4 : (Cond.code y bytes maxL ret).before a0 Z = true) (hy : y.cls ≠ "java/lang/invoke/MethodHandle" ∧ y.cls ≠ "java/lang/invoke/VarHandle")
    (hM : own_Met l Z y bytes maxL ret [] rm as' h Q') {g : JFrame} (hg : g.method = m) (hsize : g.locals.size = c.maxLocals) {argsL rest : List Value} (hlen : ∀ sig, parseMethodDescriptor y.desc = some sig → argsL.length = sig.parameters.length) (hstack : g.stack = argsL.reverse ++ rest) (has : argsL.toArray = as') {W : Nat} (hW : 2 * g.monitorRoom + (rest.map fun v => v.category).sum ≤ W) (hdg : decode c.code g.pc = .ok (.invokestatic index, 3))
    (hf : rm.frames + 1 ≤ R.frames) (hl : W + (maxL + 11) + rm.locals ≤ R.locals) (hc : cells + rm.cells ≤ R.cells) (hs : slots + rm.slots ≤ R.slots)
    (k : ∀ v T' L, Stand p l e R s m args below meth c T' (locs ++ L) (cells + rm.cells) (slots + rm.slots) → Q' v T'.heap L → own_End p e below P T' { g with pc := g.pc + 3, stack := v.toList ++ rest }) : own_End p e below P T g := by
  obtain ⟨v, vm1, ⟨T', L1, k1, n1⟩, -, X', ⟨L, hQ, l1, y1, z1⟩, st⟩ := Jvm.LawKit.callS X hx (y := y) hown (mvT hZ w1) (mvT hZ w2) (mvT hZ w3) (mvT hZ w4) hy (backOf (W := W) hM hZ w4 w3 hf hl) hg hsize hlen hstack hW hdg (fun _ _ => ⟨has, eT, hc, hs⟩)
  dsimp only [Pt.U, Pt.locs, Pt.cells, Pt.slots] at X' l1 y1 z1 st hQ
  subst l1 y1 z1
  exact own_go st (k v T' L X' hQ)
theorem own_callC (X : Stand p l e R s m args below meth c T locs cells slots) (hx : p.tables.exec = Jvm.exec) (hZ : Z.Warmed39 s.vm) {own : String} (hown : s.vm.findClass own = some m.cls) (eT : T.heap = h) {index : Nat} {y : MethodName} {bytes : ByteArray} {maxL : Nat} {rm : Room} {as' : Array Value} {Q' : Option Value → Heap → List Loc → Prop}
    (hyi : y.name = "<init>") (w1 : (Cond.methodLink own index y).before a0 Z = true) (w2 : (Cond.instanceMethod y).before a0 Z = true) (w3 : (Cond.initialized y.cls).before a0 Z = true) (w4 : (Cond.code y bytes maxL none).before a0 Z = true) (hy : y.cls ≠ "java/lang/invoke/MethodHandle" ∧ y.cls ≠ "java/lang/invoke/VarHandle")
    (hM : own_Met l Z y bytes maxL none [] rm as' h Q') {g : JFrame} (hg : g.method = m) (hsize : g.locals.size = c.maxLocals) {a : Addr} {argsL rest : List Value} (hlen : ∀ sig, parseMethodDescriptor y.desc = some sig → argsL.length = sig.parameters.length) (hstack : g.stack = argsL.reverse ++ .ref a :: rest) (has : (.ref a :: argsL).toArray = as') {W : Nat} (hW : 2 * g.monitorRoom + (rest.map fun v => v.category).sum ≤ W) (hdg : decode c.code g.pc = .ok (.invokespecial index, 3))
    (hf : rm.frames + 1 ≤ R.frames) (hl : W + (maxL + 11) + rm.locals ≤ R.locals) (hc : cells + rm.cells ≤ R.cells) (hs : slots + rm.slots ≤ R.slots)
    (k : ∀ v T' L, Stand p l e R s m args below meth c T' (locs ++ L) (cells + rm.cells) (slots + rm.slots) → Q' v T'.heap L → own_End p e below P T' { g with pc := g.pc + 3, stack := v.toList ++ rest }) : own_End p e below P T g := by
  obtain ⟨v, vm1, ⟨T', L1, k1, n1⟩, -, X', ⟨L, hQ, l1, y1, z1⟩, st⟩ := X.specialBack hx (y := y) hyi hown (mvT hZ w1) (mvT hZ w2) (mvT hZ w4) hy (backOf (W := W) hM hZ w4 w3 hf hl) hg hsize (Steps.refl _) (a := a) hlen hstack hW hdg (fun _ _ => ⟨has, eT, hc, hs⟩)
  dsimp only [Pt.U, Pt.locs, Pt.cells, Pt.slots] at X' l1 y1 z1 st hQ
  subst l1 y1 z1
  exact own_via st (k v T' L X' hQ)
theorem own_callV (X : Stand p l e R s m args below meth c T locs cells slots) (hx : p.tables.exec = Jvm.exec) (hZ : Z.Warmed39 s.vm) {own : String} (hown : s.vm.findClass own = some m.cls) (eT : T.heap = h) {index : Nat} {C : String} {y z : MethodName} {bytes : ByteArray} {maxL : Nat} {ret : Option FieldType} {rm : Room} {as' : Array Value} {Q' : Option Value → Heap → List Loc → Prop}
    (w1 : (Cond.methodLink own index y).before a0 Z = true) (wd : (Cond.declares y).before a0 Z = true) (hnf : NotFace s y) (wsel : (Cond.selects C y z).before a0 Z = true) (w2 : (Cond.instanceMethod z).before a0 Z = true) (w3 : (Cond.initialized z.cls).before a0 Z = true) (w4 : (Cond.code z bytes maxL ret).before a0 Z = true) (hy : y.cls ≠ "java/lang/invoke/MethodHandle" ∧ y.cls ≠ "java/lang/invoke/VarHandle")
    (hM : own_Met l Z z bytes maxL ret [] rm as' h Q') {a : Addr} (E : Exa Z h a C) {g : JFrame} (hg : g.method = m) (hsize : g.locals.size = c.maxLocals) {argsL rest : List Value} (hlen : ∀ sig, parseMethodDescriptor y.desc = some sig → argsL.length = sig.parameters.length) (hstack : g.stack = argsL.reverse ++ .ref a :: rest) (has : (.ref a :: argsL).toArray = as') {W : Nat} (hW : 2 * g.monitorRoom + (rest.map fun v => v.category).sum ≤ W) (hdg : decode c.code g.pc = .ok (.invokevirtual index, 3))
    (hf : rm.frames + 1 ≤ R.frames) (hl : W + (maxL + 11) + rm.locals ≤ R.locals) (hc : cells + rm.cells ≤ R.cells) (hs : slots + rm.slots ≤ R.slots)
    (k : ∀ v T' L, Stand p l e R s m args below meth c T' (locs ++ L) (cells + rm.cells) (slots + rm.slots) → Q' v T'.heap L → own_End p e below P T' { g with pc := g.pc + 3, stack := v.toList ++ rest }) : own_End p e below P T g := by
  obtain ⟨cB, kB, q1, q2, q3⟩ := isOf (T := T) hZ eT E
  obtain ⟨v, vm1, ⟨T', L1, k1, n1⟩, -, X', ⟨L, hQ, l1, y1, z1⟩, st⟩ := X.virtualBack hx (y := y) (z := z) hown (mvT hZ w1) (mvT hZ wd) hnf (mvT hZ wsel) (mvT hZ w2) hy (backOf (W := W) hM hZ w4 w3 hf hl) q1 q3 hg hsize (Steps.refl _) hlen hstack hW hdg (fun _ _ => ⟨has, eT, hc, hs⟩)
  dsimp only [Pt.U, Pt.locs, Pt.cells, Pt.slots] at X' l1 y1 z1 st hQ
  subst l1 y1 z1
  exact own_via st (k v T' L X' hQ)
theorem own_selP {C : String} {x' y y' : MethodName} (wz : (Cond.selects C x' y').before args s = true) (hc : y'.cls = y.cls) (hpriv : s.PrivateAt y) (hinst : (Cond.instanceMethod y).before args s = true) (hy : y.cls ≠ "java/lang/invoke/MethodHandle" ∧ y.cls ≠ "java/lang/invoke/VarHandle") : (Cond.selects y.cls y y).before args s = true := by
  obtain ⟨_, _, m2, -, -, q3, -, kP, hkP, hkPi⟩ := Cond.selects_spec wz
  exact selects_self_of_private (by rw [← hc]; exact findClass_of_methodNamed q3) hkP hkPi hpriv hinst hy
theorem own_callP (X : Stand p l e R s m args below meth c T locs cells slots) (hx : p.tables.exec = Jvm.exec) (hZ : Z.Warmed39 s.vm) {own : String} (hown : s.vm.findClass own = some m.cls) (eT : T.heap = h) {index : Nat} {y : MethodName} {bytes : ByteArray} {maxL : Nat} {ret : Option FieldType} {rm : Room} {as' : Array Value} {Q' : Option Value → Heap → List Loc → Prop}
    (w1 : (Cond.methodLink own index y).before a0 Z = true) (w2 : (Cond.instanceMethod y).before a0 Z = true) (wsel : (Cond.selects y.cls y y).before args s = true) (wp : (Cond.privateMethod y).before a0 Z = true) (w3 : (Cond.initialized y.cls).before a0 Z = true) (w4 : (Cond.code y bytes maxL ret).before a0 Z = true) (hy : y.cls ≠ "java/lang/invoke/MethodHandle" ∧ y.cls ≠ "java/lang/invoke/VarHandle")
    (hM : own_Met l Z y bytes maxL ret [] rm as' h Q') {C : String} {a : Addr} (E : Exa Z h a C) {g : JFrame} (hg : g.method = m) (hsize : g.locals.size = c.maxLocals) {argsL rest : List Value} (hlen : ∀ sig, parseMethodDescriptor y.desc = some sig → argsL.length = sig.parameters.length) (hstack : g.stack = argsL.reverse ++ .ref a :: rest) (has : (.ref a :: argsL).toArray = as') {W : Nat} (hW : 2 * g.monitorRoom + (rest.map fun v => v.category).sum ≤ W) (hdg : decode c.code g.pc = .ok (.invokevirtual index, 3))
    (hf : rm.frames + 1 ≤ R.frames) (hl : W + (maxL + 11) + rm.locals ≤ R.locals) (hc : cells + rm.cells ≤ R.cells) (hs : slots + rm.slots ≤ R.slots)
    (k : ∀ v T' L, Stand p l e R s m args below meth c T' (locs ++ L) (cells + rm.cells) (slots + rm.slots) → Q' v T'.heap L → own_End p e below P T' { g with pc := g.pc + 3, stack := v.toList ++ rest }) : own_End p e below P T g := by
  obtain ⟨cq, q1, q2⟩ := E.cell
  obtain ⟨v, vm1, ⟨T', L1, k1, n1⟩, -, X', ⟨L, hQ, l1, y1, z1⟩, st⟩ := X.privateBack hx (y := y) hown (mvT hZ w1) (mvT hZ w2) wsel (Cond.privateMethod_at (mvP hZ wp (args := #[]))) (mvT hZ w4) hy (backOf (W := W) hM hZ w4 w3 hf hl) hg hsize (Steps.refl _) (a := a) (by rw [eT]; exact q1) q2 hlen hstack hW hdg (fun _ _ => ⟨has, eT, hc, hs⟩)
  dsimp only [Pt.U, Pt.locs, Pt.cells, Pt.slots] at X' l1 y1 z1 st hQ
  subst l1 y1 z1
  exact own_via st (k v T' L X' hQ)
end OwnSteps
/-! own: a truth as an int; comparisons of longs -/
def own_z (P : Prop) [Decidable P] : Int32 := if P then 1 else 0
section OwnTruth
variable {P : Prop} [Decidable P] {x y : Int64}
theorem own_z_t (h : P) : own_z P = 1 := if_pos h
theorem own_z_f (h : ¬ P) : own_z P = 0 := if_neg h
theorem own_z_nar : nar .boolean (own_z P) = own_z P := by unfold own_z; split <;> decide
theorem own_z_congr {P' : Prop} [Decidable P'] (h : P ↔ P') : own_z P = own_z P' := by unfold own_z; by_cases q : P <;> simp [q, h.symm, h.mp] <;> simp_all
theorem own_z_inj {P' : Prop} [Decidable P'] (h : own_z P = own_z P') : P ↔ P' := by
  unfold own_z at h; by_cases q : P <;> by_cases q' : P' <;> simp_all
theorem own_zY_eq (h : ¬ P) : ifCond.holds .eq (own_z P) = true := by rw [own_z_f h]; rfl
theorem own_zN_eq (h : P) : ifCond.holds .eq (own_z P) = false := by rw [own_z_t h]; rfl
theorem own_zY_ne (h : P) : ifCond.holds .ne (own_z P) = true := by rw [own_z_t h]; rfl
theorem own_zN_ne (h : ¬ P) : ifCond.holds .ne (own_z P) = false := by rw [own_z_f h]; rfl
theorem own_lY_lt (h : x < y) : ifCond.holds .lt (lcmpW x y) = true := (if0 _ _).trans (tlt ((lw_lt x y).mpr h)).1
theorem own_lN_lt (h : ¬ x < y) : ifCond.holds .lt (lcmpW x y) = false := (if0 _ _).trans (flt (mt (lw_lt x y).mp h)).1
theorem own_lY_ge (h : ¬ x < y) : ifCond.holds .ge (lcmpW x y) = true := (if0 _ _).trans (flt (mt (lw_lt x y).mp h)).2.1
theorem own_lN_ge (h : x < y) : ifCond.holds .ge (lcmpW x y) = false := (if0 _ _).trans (tlt ((lw_lt x y).mpr h)).2.1
theorem own_lY_gt (h : y < x) : ifCond.holds .gt (lcmpW x y) = true := (if0 _ _).trans (tlt ((lw_gt x y).mpr h)).2.2.1
theorem own_lN_gt (h : ¬ y < x) : ifCond.holds .gt (lcmpW x y) = false := (if0 _ _).trans (flt (mt (lw_gt x y).mp h)).2.2.1
theorem own_lY_le (h : ¬ y < x) : ifCond.holds .le (lcmpW x y) = true := (if0 _ _).trans (flt (mt (lw_gt x y).mp h)).2.2.2
theorem own_lN_le (h : y < x) : ifCond.holds .le (lcmpW x y) = false := (if0 _ _).trans (tlt ((lw_gt x y).mpr h)).2.2.2
theorem own_lY_eq (h : x = y) : ifCond.holds .eq (lcmpW x y) = true := (if0 _ _).trans (teq ((lw_eq x y).mpr h)).1
theorem own_lN_eq (h : ¬ x = y) : ifCond.holds .eq (lcmpW x y) = false := (if0 _ _).trans (feq (mt (lw_eq x y).mp h)).1
theorem own_lY_ne (h : ¬ x = y) : ifCond.holds .ne (lcmpW x y) = true := (if0 _ _).trans (feq (mt (lw_eq x y).mp h)).2
theorem own_lN_ne (h : x = y) : ifCond.holds .ne (lcmpW x y) = false := (if0 _ _).trans (teq ((lw_eq x y).mpr h)).2
end OwnTruth
/-! own: a callee that writes nothing -/
def own_Pq (val : Option Value) (h : Heap) : Option Value → Heap → List Loc → Prop := fun v h' L => v = val ∧ L = [] ∧ h' = h
section OwnPure
variable {p : Program} {l : Launch} {e : Env} {R : Room} {s : State} {m : MethodId} {args : Array Value} {below : List Frame} {meth : Method} {c : Code} {T : State} {locs : List Loc} {cells slots : Nat} {P : State → Outcome → Prop} {Q : Option Value → Heap → List Loc → Prop} {kc ns : Nat} {Z : State} {a0 : Array Value} {h : Heap} {f : JFrame}
theorem own_callSp (X : Stand p l e R s m args below meth c T locs cells slots) (hx : p.tables.exec = Jvm.exec) (hZ : Z.Warmed39 s.vm) {own : String} (hown : s.vm.findClass own = some m.cls) (eT : T.heap = h) {index : Nat} {y : MethodName} {bytes : ByteArray} {maxL : Nat} {ret : Option FieldType} {fr lo : Nat} {as' : Array Value} {val : Option Value}
    (w1 : (Cond.methodLink own index y).before a0 Z = true) (w2 : (Cond.static y).before a0 Z = true) (w3 : (Cond.initialized y.cls).before a0 Z = true) (w4 : (Cond.code y bytes maxL ret).before a0 Z = true) (hy : y.cls ≠ "java/lang/invoke/MethodHandle" ∧ y.cls ≠ "java/lang/invoke/VarHandle")
    (hM : own_Met l Z y bytes maxL ret [] { frames := fr, cells := 0, slots := 0, locals := lo } as' h (own_Pq val h)) {g : JFrame} (hg : g.method = m) (hsize : g.locals.size = c.maxLocals) {argsL rest : List Value} (hlen : ∀ sig, parseMethodDescriptor y.desc = some sig → argsL.length = sig.parameters.length) (hstack : g.stack = argsL.reverse ++ rest) (has : argsL.toArray = as') {W : Nat} (hW : 2 * g.monitorRoom + (rest.map fun v => v.category).sum ≤ W) (hdg : decode c.code g.pc = .ok (.invokestatic index, 3))
    (hf : fr + 1 ≤ R.frames) (hl : W + (maxL + 11) + lo ≤ R.locals) (hc : cells ≤ R.cells) (hs : slots ≤ R.slots)
    (k : ∀ T', Stand p l e R s m args below meth c T' locs cells slots → T'.heap = h → own_End p e below P T' { g with pc := g.pc + 3, stack := val.toList ++ rest }) : own_End p e below P T g :=
  own_callS X hx hZ hown eT w1 w2 w3 w4 hy hM hg hsize hlen hstack has hW hdg hf hl hc hs fun v T' L X' ⟨q1, q2, q3⟩ => by
    subst q1 q2
    rw [List.append_nil] at X'
    exact k T' X' q3
theorem own_callCp (X : Stand p l e R s m args below meth c T locs cells slots) (hx : p.tables.exec = Jvm.exec) (hZ : Z.Warmed39 s.vm) {own : String} (hown : s.vm.findClass own = some m.cls) (eT : T.heap = h) {index : Nat} {y : MethodName} {bytes : ByteArray} {maxL : Nat} {fr lo : Nat} {as' : Array Value} {val : Option Value}
    (hyi : y.name = "<init>") (w1 : (Cond.methodLink own index y).before a0 Z = true) (w2 : (Cond.instanceMethod y).before a0 Z = true) (w3 : (Cond.initialized y.cls).before a0 Z = true) (w4 : (Cond.code y bytes maxL none).before a0 Z = true) (hy : y.cls ≠ "java/lang/invoke/MethodHandle" ∧ y.cls ≠ "java/lang/invoke/VarHandle")
    (hM : own_Met l Z y bytes maxL none [] { frames := fr, cells := 0, slots := 0, locals := lo } as' h (own_Pq val h)) {g : JFrame} (hg : g.method = m) (hsize : g.locals.size = c.maxLocals) {a : Addr} {argsL rest : List Value} (hlen : ∀ sig, parseMethodDescriptor y.desc = some sig → argsL.length = sig.parameters.length) (hstack : g.stack = argsL.reverse ++ .ref a :: rest) (has : (.ref a :: argsL).toArray = as') {W : Nat} (hW : 2 * g.monitorRoom + (rest.map fun v => v.category).sum ≤ W) (hdg : decode c.code g.pc = .ok (.invokespecial index, 3))
    (hf : fr + 1 ≤ R.frames) (hl : W + (maxL + 11) + lo ≤ R.locals) (hc : cells ≤ R.cells) (hs : slots ≤ R.slots)
    (k : ∀ T', Stand p l e R s m args below meth c T' locs cells slots → T'.heap = h → own_End p e below P T' { g with pc := g.pc + 3, stack := val.toList ++ rest }) : own_End p e below P T g :=
  own_callC X hx hZ hown eT hyi w1 w2 w3 w4 hy hM hg hsize hlen hstack has hW hdg hf hl hc hs fun v T' L X' ⟨q1, q2, q3⟩ => by
    subst q1 q2
    rw [List.append_nil] at X'
    exact k T' X' q3
theorem own_callVp (X : Stand p l e R s m args below meth c T locs cells slots) (hx : p.tables.exec = Jvm.exec) (hZ : Z.Warmed39 s.vm) {own : String} (hown : s.vm.findClass own = some m.cls) (eT : T.heap = h) {index : Nat} {C : String} {y z : MethodName} {bytes : ByteArray} {maxL : Nat} {ret : Option FieldType} {fr lo : Nat} {as' : Array Value} {val : Option Value}
    (w1 : (Cond.methodLink own index y).before a0 Z = true) (wd : (Cond.declares y).before a0 Z = true) (hnf : NotFace s y) (wsel : (Cond.selects C y z).before a0 Z = true) (w2 : (Cond.instanceMethod z).before a0 Z = true) (w3 : (Cond.initialized z.cls).before a0 Z = true) (w4 : (Cond.code z bytes maxL ret).before a0 Z = true) (hy : y.cls ≠ "java/lang/invoke/MethodHandle" ∧ y.cls ≠ "java/lang/invoke/VarHandle")
    (hM : own_Met l Z z bytes maxL ret [] { frames := fr, cells := 0, slots := 0, locals := lo } as' h (own_Pq val h)) {a : Addr} (E : Exa Z h a C) {g : JFrame} (hg : g.method = m) (hsize : g.locals.size = c.maxLocals) {argsL rest : List Value} (hlen : ∀ sig, parseMethodDescriptor y.desc = some sig → argsL.length = sig.parameters.length) (hstack : g.stack = argsL.reverse ++ .ref a :: rest) (has : (.ref a :: argsL).toArray = as') {W : Nat} (hW : 2 * g.monitorRoom + (rest.map fun v => v.category).sum ≤ W) (hdg : decode c.code g.pc = .ok (.invokevirtual index, 3))
    (hf : fr + 1 ≤ R.frames) (hl : W + (maxL + 11) + lo ≤ R.locals) (hc : cells ≤ R.cells) (hs : slots ≤ R.slots)
    (k : ∀ T', Stand p l e R s m args below meth c T' locs cells slots → T'.heap = h → own_End p e below P T' { g with pc := g.pc + 3, stack := val.toList ++ rest }) : own_End p e below P T g :=
  own_callV X hx hZ hown eT w1 wd hnf wsel w2 w3 w4 hy hM E hg hsize hlen hstack has hW hdg hf hl hc hs fun v T' L X' ⟨q1, q2, q3⟩ => by
    subst q1 q2
    rw [List.append_nil] at X'
    exact k T' X' q3
theorem own_callPp (X : Stand p l e R s m args below meth c T locs cells slots) (hx : p.tables.exec = Jvm.exec) (hZ : Z.Warmed39 s.vm) {own : String} (hown : s.vm.findClass own = some m.cls) (eT : T.heap = h) {index : Nat} {y : MethodName} {bytes : ByteArray} {maxL : Nat} {ret : Option FieldType} {fr lo : Nat} {as' : Array Value} {val : Option Value}
    (w1 : (Cond.methodLink own index y).before a0 Z = true) (w2 : (Cond.instanceMethod y).before a0 Z = true) (wsel : (Cond.selects y.cls y y).before args s = true) (wp : (Cond.privateMethod y).before a0 Z = true) (w3 : (Cond.initialized y.cls).before a0 Z = true) (w4 : (Cond.code y bytes maxL ret).before a0 Z = true) (hy : y.cls ≠ "java/lang/invoke/MethodHandle" ∧ y.cls ≠ "java/lang/invoke/VarHandle")
    (hM : own_Met l Z y bytes maxL ret [] { frames := fr, cells := 0, slots := 0, locals := lo } as' h (own_Pq val h)) {C : String} {a : Addr} (E : Exa Z h a C) {g : JFrame} (hg : g.method = m) (hsize : g.locals.size = c.maxLocals) {argsL rest : List Value} (hlen : ∀ sig, parseMethodDescriptor y.desc = some sig → argsL.length = sig.parameters.length) (hstack : g.stack = argsL.reverse ++ .ref a :: rest) (has : (.ref a :: argsL).toArray = as') {W : Nat} (hW : 2 * g.monitorRoom + (rest.map fun v => v.category).sum ≤ W) (hdg : decode c.code g.pc = .ok (.invokevirtual index, 3))
    (hf : fr + 1 ≤ R.frames) (hl : W + (maxL + 11) + lo ≤ R.locals) (hc : cells ≤ R.cells) (hs : slots ≤ R.slots)
    (k : ∀ T', Stand p l e R s m args below meth c T' locs cells slots → T'.heap = h → own_End p e below P T' { g with pc := g.pc + 3, stack := val.toList ++ rest }) : own_End p e below P T g :=
  own_callP X hx hZ hown eT w1 w2 wsel wp w3 w4 hy hM E hg hsize hlen hstack has hW hdg hf hl hc hs fun v T' L X' ⟨q1, q2, q3⟩ => by
    subst q1 q2
    rw [List.append_nil] at X'
    exact k T' X' q3
end OwnPure
/-! own: a cell that is known -/
def own_K (h : Heap) (a : Addr) : Prop := ∃ cell : Cell, h[a]? = some cell ∧ cell.vm ≠ .unknown
theorem own_K_ext {h h' : Heap} {a : Addr} (K : own_K h a) (E : Ext h h') : own_K h' a := by obtain ⟨c, h1, h2⟩ := K; exact ⟨c, E.2 _ _ h1, h2⟩
theorem own_K_wr {h h' : Heap} {a b : Addr} {sl : Nat} {v : Value} (K : own_K h b) (W : Wr h h' a sl v) : own_K h' b := by
  obtain ⟨c, h1, h2⟩ := K
  obtain ⟨c', e1, -, e3, -⟩ := wr_at W h1
  exact ⟨c', e1, by rw [e3]; exact h2⟩
theorem own_K_keep {h h' : Heap} {a : Addr} {ws : List Addr} (K : own_K h a) (E : Keep h h' ws) : own_K h' a := by
  obtain ⟨c, h1, h2⟩ := K
  obtain ⟨c', e1, -, e3, -⟩ := E.2.2 _ _ h1
  exact ⟨c', e1, by rw [e3]; exact h2⟩
theorem own_K_new {h : Heap} {a : Addr} (U : ∃ cell : Cell, h[a]? = some cell ∧ cell.vm = .none ∧ cell.monitor = {}) : own_K h a := by
  obtain ⟨c, h1, h2, -⟩ := U
  exact ⟨c, h1, by rw [h2]; simp⟩

def own_maxL (x y : Int64) : Int64 := if x < y then y else x
theorem own_ab0 {x y : Int64} (h : ¬ own_maxL x y = x) : ¬ y < x := by
  unfold own_maxL at h
  by_cases q : x < y
  · exact Int64.lt_asymm q
  · rw [if_neg q] at h; exact absurd rfl h
theorem own_ab1 {x y : Int64} (h : x = y) : ¬ y < x := by subst h; exact Int64.lt_irrefl
theorem own_ab2 {x y : Int64} (h : own_maxL x y = x) (g : ¬ x = y) : y < x := by
  unfold own_maxL at h
  by_cases q : x < y
  · rw [if_pos q] at h; exact absurd h.symm g
  · have g2 : x.toInt ≠ y.toInt := fun z => g (Int64.toInt_inj.mp z)
    rw [Int64.lt_iff_toInt_lt] at *; omega

theorem pn_0 : plainName "java/lang/Record" = true := by first | (simp [plainName, overriddenIn]; done) | decide +kernel
theorem d2_0 : decode jdk_30_method_1_code 0 = .ok (.aload_n 0, 1) := by decide +kernel
theorem d2_1 : decode jdk_30_method_1_code 1 = .ok (.invokespecial 1, 3) := by decide +kernel
theorem d2_4 : decode jdk_30_method_1_code 4 = .ok (.return_, 1) := by decide +kernel
set_option maxRecDepth 65536 in
set_option maxHeartbeats 4000000 in
theorem ef_2 (m : MethodId) (a0 : Addr) : entryFrame m #[(.ref a0)] 1 = mkF m 0 #[.val (.ref a0)] [] := by first | (simp [entryFrame, mkF, argsToLocals, Value.category]; done) | rfl
set_option maxRecDepth 65536 in
set_option maxHeartbeats 40000000 in
theorem rm2 (l : Launch) (Z : State) (aw : Array Value) (hw : ∀ d ∈ tables_1, d.before aw Z = true) {ws : List Jvm.Cond} (a0 : Addr)  (h0 : Heap) (n0 : Nat) (Z0 : n0 ≤ h0.size)  :
    own_Met l Z (⟨"java/lang/Record", "<init>", "()V"⟩ : MethodName) jdk_30_method_1_code 1 none ws ({ frames := 1, cells := 0, slots := 0, locals := 12 } : Room) #[(.ref a0)] h0 (own_Pq none h0) := by
  refine own_body (plainFor_of_name pn_0) ?_
  intro p e s m below meth c s₁ hx hZ hby hml hown hnm hret hlk X0 e0
  replace hown : s.vm.findClass "java/lang/Record" = some m.cls := hown
  replace hml : c.maxLocals = 1 := hml
  obtain ⟨P, hP⟩ : ∃ P, P = own_P below s (own_Pq none h0) ({ frames := 1, cells := 0, slots := 0, locals := 12 } : Room).cells ({ frames := 1, cells := 0, slots := 0, locals := 12 } : Room).slots := ⟨_, rfl⟩
  rw [← hP]
  refine own_cast (ef_2 m a0) ?_
  refine own_go (T' := s₁) (f' := (mkF m 1 #[.val (.ref a0)] [(.ref a0)])) (fun t kt => ?_) ?_
  · show Steps p.tables e below (s₁.setTop (mkF m 0 #[.val (.ref a0)] [])) t
    refine XS.aloadN X0.here hx rfl (hb hby d2_0) rfl rfl ?_
    show Steps p.tables e below (s₁.setTop (mkF m 1 #[.val (.ref a0)] [(.ref a0)])) t
    exact kt
  obtain ⟨T1, X1, e1, st1⟩ := initO X0 hx hZ hown (hw _ (List.mem_of_getElem? (i := 11) rfl)) (hw _ (List.mem_of_getElem? (i := 12) rfl)) (hw _ (List.mem_of_getElem? (i := 13) rfl)) e0 (g := (mkF m 1 #[.val (.ref a0)] [(.ref a0)])) rfl (by rw [hml]; rfl) rfl (hb hby d2_1) (by decide) (W := 0) (by show 2 * 0 + _ ≤ _; exact Nat.le_of_eq rfl) (by decide)
  refine own_go st1 ?_
  exact own_retV X1 hP hx hlk e1 hret (hb hby d2_4) (by decide) (by decide) ⟨rfl, rfl, rfl⟩
theorem pd_0 : parseMethodDescriptor "()V" = some ⟨[], none⟩ := by decide +kernel
theorem pn_1 : plainName "com/example/commit_log_store/commitlogstore/io/TimeIndex$Entry" = true := by first | (simp [plainName, overriddenIn]; done) | decide +kernel
theorem d1_0 : decode prog_53_method_1_code 0 = .ok (.aload_n 0, 1) := by decide +kernel
theorem d1_1 : decode prog_53_method_1_code 1 = .ok (.invokespecial 1, 3) := by decide +kernel
theorem d1_4 : decode prog_53_method_1_code 4 = .ok (.aload_n 0, 1) := by decide +kernel
theorem d1_5 : decode prog_53_method_1_code 5 = .ok (.lload_n 1, 1) := by decide +kernel
theorem d1_6 : decode prog_53_method_1_code 6 = .ok (.putfield 7, 3) := by decide +kernel
theorem d1_9 : decode prog_53_method_1_code 9 = .ok (.aload_n 0, 1) := by decide +kernel
theorem d1_10 : decode prog_53_method_1_code 10 = .ok (.lload_n 3, 1) := by decide +kernel
theorem d1_11 : decode prog_53_method_1_code 11 = .ok (.putfield 13, 3) := by decide +kernel
theorem d1_14 : decode prog_53_method_1_code 14 = .ok (.return_, 1) := by decide +kernel
set_option maxRecDepth 65536 in
set_option maxHeartbeats 4000000 in
theorem ef_1 (m : MethodId) (a0 : Addr) (q1 : Int64) (q2 : Int64) : entryFrame m #[(.ref a0), (.long q1), (.long q2)] 5 = mkF m 0 #[.val (.ref a0), .val (.long q1), .second, .val (.long q2), .second] [] := by first | (simp [entryFrame, mkF, argsToLocals, Value.category]; done) | rfl
set_option maxRecDepth 65536 in
set_option maxHeartbeats 40000000 in
theorem rm1 (l : Launch) (Z : State) (aw : Array Value) (hw : ∀ d ∈ tables_1, d.before aw Z = true) {ws : List Jvm.Cond} (a0 : Addr) (q1 : Int64) (q2 : Int64)  (h0 : Heap) (n0 : Nat) (Z0 : n0 ≤ h0.size) (E_a0 : Exa Z h0 a0 "com/example/commit_log_store/commitlogstore/io/TimeIndex$Entry") (K_a0 : own_K h0 a0) (g_a0 : n0 ≤ a0) :
    own_Met l Z (⟨"com/example/commit_log_store/commitlogstore/io/TimeIndex$Entry", "<init>", "(JJ)V"⟩ : MethodName) prog_53_method_1_code 5 none ws ({ frames := 2, cells := 0, slots := 0, locals := 24 } : Room) #[(.ref a0), (.long q1), (.long q2)] h0 (fun v h L => v = none ∧ Fr n0 L ∧ Keep h0 h [a0] ∧ Exa Z h a0 "com/example/commit_log_store/commitlogstore/io/TimeIndex$Entry" ∧ Fld Z h a0 "com/example/commit_log_store/commitlogstore/io/TimeIndex$Entry" "timestamp" "J" (.long q1) ∧ Fld Z h a0 "com/example/commit_log_store/commitlogstore/io/TimeIndex$Entry" "offset" "J" (.long q2)) := by
  refine own_body (plainFor_of_name pn_1) ?_
  intro p e s m below meth c s₁ hx hZ hby hml hown hnm hret hlk X0 e0
  replace hown : s.vm.findClass "com/example/commit_log_store/commitlogstore/io/TimeIndex$Entry" = some m.cls := hown
  replace hml : c.maxLocals = 5 := hml
  have N0 := Fr.nil n0
  have K0 := Keep.refl h0 [a0]
  obtain ⟨P, hP⟩ : ∃ P, P = own_P below s (fun v h L => v = none ∧ Fr n0 L ∧ Keep h0 h [a0] ∧ Exa Z h a0 "com/example/commit_log_store/commitlogstore/io/TimeIndex$Entry" ∧ Fld Z h a0 "com/example/commit_log_store/commitlogstore/io/TimeIndex$Entry" "timestamp" "J" (.long q1) ∧ Fld Z h a0 "com/example/commit_log_store/commitlogstore/io/TimeIndex$Entry" "offset" "J" (.long q2)) ({ frames := 2, cells := 0, slots := 0, locals := 24 } : Room).cells ({ frames := 2, cells := 0, slots := 0, locals := 24 } : Room).slots := ⟨_, rfl⟩
  rw [← hP]
  refine own_cast (ef_1 m a0 q1 q2) ?_
  refine own_go (T' := s₁) (f' := (mkF m 1 #[.val (.ref a0), .val (.long q1), .second, .val (.long q2), .second] [(.ref a0)])) (fun t kt => ?_) ?_
  · show Steps p.tables e below (s₁.setTop (mkF m 0 #[.val (.ref a0), .val (.long q1), .second, .val (.long q2), .second] [])) t
    refine XS.aloadN X0.here hx rfl (hb hby d1_0) rfl rfl ?_
    show Steps p.tables e below (s₁.setTop (mkF m 1 #[.val (.ref a0), .val (.long q1), .second, .val (.long q2), .second] [(.ref a0)])) t
    exact kt
  refine own_callCp X0 hx hZ hown e0 rfl (hw _ (List.mem_of_getElem? (i := 6) rfl)) (hw _ (List.mem_of_getElem? (i := 7) rfl)) (hw _ (List.mem_of_getElem? (i := 9) rfl)) (hw _ (List.mem_of_getElem? (i := 10) rfl)) (by decide) (rm2 l Z aw hw a0 h0 n0 Z0) (g := (mkF m 1 #[.val (.ref a0), .val (.long q1), .second, .val (.long q2), .second] [(.ref a0)])) rfl (by rw [hml]; rfl) (argsL := []) (rest := []) (lenOf pd_0 rfl) rfl rfl (W := 0) (by show 2 * 0 + _ ≤ _; exact Nat.le_of_eq rfl) (hb hby d1_1) (by decide) (by decide) (by decide) (by decide) ?_
  intro T1 X1 e1
  refine own_go (T' := T1) (f' := (mkF m 6 #[.val (.ref a0), .val (.long q1), .second, .val (.long q2), .second] [(.long q1), (.ref a0)])) (fun t kt => ?_) ?_
  · show Steps p.tables e below (T1.setTop (mkF m 4 #[.val (.ref a0), .val (.long q1), .second, .val (.long q2), .second] [])) t
    refine XS.aloadN X1.here hx rfl (hb hby d1_4) rfl rfl ?_
    show Steps p.tables e below (T1.setTop (mkF m 5 #[.val (.ref a0), .val (.long q1), .second, .val (.long q2), .second] [(.ref a0)])) t
    refine XS.lloadN X1.here hx rfl (hb hby d1_5) rfl ?_
    show Steps p.tables e below (T1.setTop (mkF m 6 #[.val (.ref a0), .val (.long q1), .second, .val (.long q2), .second] [(.long q1), (.ref a0)])) t
    exact kt
  obtain ⟨uv2, F2_timestamp⟩ := fld_laid E_a0 K_a0 (hw _ (List.mem_of_getElem? (i := 1) rfl)) (Or.inr (hw _ (List.mem_of_getElem? (i := 15) rfl)))
  obtain ⟨T2, h2, X2, e2, W2, st2⟩ := putF X1 hx hZ hown (host := "") (Or.inl (hw _ (List.mem_of_getElem? (i := 14) rfl))) Via.refl e1 F2_timestamp E_a0 (Or.inr ⟨(hw _ (List.mem_of_getElem? (i := 15) rfl)), rfl, hnm⟩) (hw _ (List.mem_of_getElem? (i := 1) rfl)) (ty := .long) (by decide) rfl rfl (g := (mkF m 6 #[.val (.ref a0), .val (.long q1), .second, .val (.long q2), .second] [(.long q1), (.ref a0)])) rfl rfl (hb hby d1_6)
  refine own_go st2 ?_
  replace E_a0 := (E_a0.wr W2)
  replace F2_timestamp := (F2_timestamp.same W2)
  replace K_a0 := own_K_wr K_a0 W2
  have N2 := Fr.snoc X2 N0 g_a0
  have Z2 : n0 ≤ h2.size := Nat.le_trans Z0 (Keep.of_wr W2).1
  have KK2 := K0.wr W2 (Or.inl (by simp))
  refine own_go (T' := T2) (f' := (mkF m 11 #[.val (.ref a0), .val (.long q1), .second, .val (.long q2), .second] [(.long q2), (.ref a0)])) (fun t kt => ?_) ?_
  · show Steps p.tables e below (T2.setTop (mkF m 9 #[.val (.ref a0), .val (.long q1), .second, .val (.long q2), .second] [])) t
    refine XS.aloadN X2.here hx rfl (hb hby d1_9) rfl rfl ?_
    show Steps p.tables e below (T2.setTop (mkF m 10 #[.val (.ref a0), .val (.long q1), .second, .val (.long q2), .second] [(.ref a0)])) t
    refine XS.lloadN X2.here hx rfl (hb hby d1_10) rfl ?_
    show Steps p.tables e below (T2.setTop (mkF m 11 #[.val (.ref a0), .val (.long q1), .second, .val (.long q2), .second] [(.long q2), (.ref a0)])) t
    exact kt
  obtain ⟨uv3, F3_offset⟩ := fld_laid E_a0 K_a0 (hw _ (List.mem_of_getElem? (i := 1) rfl)) (Or.inr (hw _ (List.mem_of_getElem? (i := 17) rfl)))
  obtain ⟨T3, h3, X3, e3, W3, st3⟩ := putF X2 hx hZ hown (host := "") (Or.inl (hw _ (List.mem_of_getElem? (i := 16) rfl))) Via.refl e2 F3_offset E_a0 (Or.inr ⟨(hw _ (List.mem_of_getElem? (i := 17) rfl)), rfl, hnm⟩) (hw _ (List.mem_of_getElem? (i := 1) rfl)) (ty := .long) (by decide) rfl rfl (g := (mkF m 11 #[.val (.ref a0), .val (.long q1), .second, .val (.long q2), .second] [(.long q2), (.ref a0)])) rfl rfl (hb hby d1_11)
  refine own_go st3 ?_
  replace E_a0 := (E_a0.wr W3)
  replace F2_timestamp := (F2_timestamp.other W3 (Or.inr (slot_ne (Or.inr (hw _ (List.mem_of_getElem? (i := 15) rfl))) (Or.inr (hw _ (List.mem_of_getElem? (i := 17) rfl))) (by decide) (t := .long) (t' := .long) (by decide) (by decide))))
  replace F3_offset := (F3_offset.same W3)
  replace K_a0 := own_K_wr K_a0 W3
  have N3 := Fr.snoc X3 N2 g_a0
  have Z3 : n0 ≤ h3.size := Nat.le_trans Z2 (Keep.of_wr W3).1
  have KK3 := KK2.wr W3 (Or.inl (by simp))
  exact own_retV X3 hP hx hlk e3 hret (hb hby d1_14) (by decide) (by decide) ⟨rfl, N3, KK3, E_a0, F2_timestamp, F3_offset⟩
theorem d6_0 : decode prog_53_method_2_code 0 = .ok (.aload_n 0, 1) := by decide +kernel
theorem d6_1 : decode prog_53_method_2_code 1 = .ok (.getfield 7, 3) := by decide +kernel
theorem d6_4 : decode prog_53_method_2_code 4 = .ok (.aload_n 1, 1) := by decide +kernel
theorem d6_5 : decode prog_53_method_2_code 5 = .ok (.getfield 7, 3) := by decide +kernel
theorem d6_8 : decode prog_53_method_2_code 8 = .ok (.lcmp, 1) := by decide +kernel
theorem d6_9 : decode prog_53_method_2_code 9 = .ok (.ifCond .le 19, 3) := by decide +kernel
theorem d6_12 : decode prog_53_method_2_code 12 = .ok (.aload_n 0, 1) := by decide +kernel
theorem d6_13 : decode prog_53_method_2_code 13 = .ok (.getfield 13, 3) := by decide +kernel
theorem d6_16 : decode prog_53_method_2_code 16 = .ok (.aload_n 1, 1) := by decide +kernel
theorem d6_17 : decode prog_53_method_2_code 17 = .ok (.getfield 13, 3) := by decide +kernel
theorem d6_20 : decode prog_53_method_2_code 20 = .ok (.lcmp, 1) := by decide +kernel
theorem d6_21 : decode prog_53_method_2_code 21 = .ok (.ifCond .le 7, 3) := by decide +kernel
theorem d6_24 : decode prog_53_method_2_code 24 = .ok (.iconst 1, 1) := by decide +kernel
theorem d6_25 : decode prog_53_method_2_code 25 = .ok (.goto 4, 3) := by decide +kernel
theorem d6_28 : decode prog_53_method_2_code 28 = .ok (.iconst 0, 1) := by decide +kernel
theorem d6_29 : decode prog_53_method_2_code 29 = .ok (.ireturn, 1) := by decide +kernel
set_option maxRecDepth 65536 in
set_option maxHeartbeats 4000000 in
theorem ef_6 (m : MethodId) (a0 : Addr) (a1 : Addr) : entryFrame m #[(.ref a0), (.ref a1)] 2 = mkF m 0 #[.val (.ref a0), .val (.ref a1)] [] := by first | (simp [entryFrame, mkF, argsToLocals, Value.category]; done) | rfl
set_option maxRecDepth 65536 in
set_option maxHeartbeats 40000000 in
theorem rm6 (l : Launch) (Z : State) (aw : Array Value) (hw : ∀ d ∈ tables_1, d.before aw Z = true) {ws : List Jvm.Cond} (a0 : Addr) (a1 : Addr) (w0 : Int64) (w1 : Int64) (w2 : Int64) (w3 : Int64) (h0 : Heap) (n0 : Nat) (Z0 : n0 ≤ h0.size) (F_a0_timestamp : Fld Z h0 a0 "com/example/commit_log_store/commitlogstore/io/TimeIndex$Entry" "timestamp" "J" (.long w0)) (F_a0_offset : Fld Z h0 a0 "com/example/commit_log_store/commitlogstore/io/TimeIndex$Entry" "offset" "J" (.long w1)) (F_a1_timestamp : Fld Z h0 a1 "com/example/commit_log_store/commitlogstore/io/TimeIndex$Entry" "timestamp" "J" (.long w2)) (F_a1_offset : Fld Z h0 a1 "com/example/commit_log_store/commitlogstore/io/TimeIndex$Entry" "offset" "J" (.long w3)) :
    own_Met l Z (⟨"com/example/commit_log_store/commitlogstore/io/TimeIndex$Entry", "risesPast", "(Lcom/example/commit_log_store/commitlogstore/io/TimeIndex$Entry;)Z"⟩ : MethodName) prog_53_method_2_code 2 (some .boolean) ws ({ frames := 0, cells := 0, slots := 0, locals := 0 } : Room) #[(.ref a0), (.ref a1)] h0 (own_Pq (some (.int (own_z (w2 < w0 ∧ w3 < w1)))) h0) := by
  refine own_body (plainFor_of_name pn_1) ?_
  intro p e s m below meth c s₁ hx hZ hby hml hown hnm hret hlk X0 e0
  replace hown : s.vm.findClass "com/example/commit_log_store/commitlogstore/io/TimeIndex$Entry" = some m.cls := hown
  replace hml : c.maxLocals = 2 := hml
  obtain ⟨P, hP⟩ : ∃ P, P = own_P below s (own_Pq (some (.int (own_z (w2 < w0 ∧ w3 < w1)))) h0) ({ frames := 0, cells := 0, slots := 0, locals := 0 } : Room).cells ({ frames := 0, cells := 0, slots := 0, locals := 0 } : Room).slots := ⟨_, rfl⟩
  rw [← hP]
  refine own_cast (ef_6 m a0 a1) ?_
  refine own_go (T' := s₁) (f' := (mkF m 1 #[.val (.ref a0), .val (.ref a1)] [(.ref a0)])) (fun t kt => ?_) ?_
  · show Steps p.tables e below (s₁.setTop (mkF m 0 #[.val (.ref a0), .val (.ref a1)] [])) t
    refine XS.aloadN X0.here hx rfl (hb hby d6_0) rfl rfl ?_
    show Steps p.tables e below (s₁.setTop (mkF m 1 #[.val (.ref a0), .val (.ref a1)] [(.ref a0)])) t
    exact kt
  obtain ⟨T1, X1, e1, st1⟩ := getF X0 hx hZ hown (host := "") (Or.inl (hw _ (List.mem_of_getElem? (i := 14) rfl))) Via.refl e0 F_a0_timestamp (g := (mkF m 1 #[.val (.ref a0), .val (.ref a1)] [(.ref a0)])) rfl rfl (hb hby d6_1)
  refine own_go st1 ?_
  refine own_go (T' := T1) (f' := (mkF m 5 #[.val (.ref a0), .val (.ref a1)] [(.ref a1), (.long w0)])) (fun t kt => ?_) ?_
  · show Steps p.tables e below (T1.setTop (mkF m 4 #[.val (.ref a0), .val (.ref a1)] [(.long w0)])) t
    refine XS.aloadN X1.here hx rfl (hb hby d6_4) rfl rfl ?_
    show Steps p.tables e below (T1.setTop (mkF m 5 #[.val (.ref a0), .val (.ref a1)] [(.ref a1), (.long w0)])) t
    exact kt
  obtain ⟨T2, X2, e2, st2⟩ := getF X1 hx hZ hown (host := "") (Or.inl (hw _ (List.mem_of_getElem? (i := 14) rfl))) Via.refl e1 F_a1_timestamp (g := (mkF m 5 #[.val (.ref a0), .val (.ref a1)] [(.ref a1), (.long w0)])) rfl rfl (hb hby d6_5)
  refine own_go st2 ?_
  refine own_go (T' := T2) (f' := (mkF m 9 #[.val (.ref a0), .val (.ref a1)] [(.int (lcmpW w0 w2))])) (fun t kt => ?_) ?_
  · show Steps p.tables e below (T2.setTop (mkF m 8 #[.val (.ref a0), .val (.ref a1)] [(.long w2), (.long w0)])) t
    refine XS.lcmp X2.here hx rfl (hb hby d6_8) rfl ?_
    show Steps p.tables e below (T2.setTop (mkF m 9 #[.val (.ref a0), .val (.ref a1)] [(.int (lcmpW w0 w2))])) t
    exact kt
  by_cases hc9_3 : w2 < w0
  · refine own_go (T' := T2) (f' := (mkF m 13 #[.val (.ref a0), .val (.ref a1)] [(.ref a0)])) (fun t kt => ?_) ?_
    · show Steps p.tables e below (T2.setTop (mkF m 9 #[.val (.ref a0), .val (.ref a1)] [(.int (lcmpW w0 w2))])) t
      refine XS.ifNo X2.here hx rfl (hb hby d6_9) rfl (own_lN_le hc9_3) ?_
      show Steps p.tables e below (T2.setTop (mkF m 12 #[.val (.ref a0), .val (.ref a1)] [])) t
      refine XS.aloadN X2.here hx rfl (hb hby d6_12) rfl rfl ?_
      show Steps p.tables e below (T2.setTop (mkF m 13 #[.val (.ref a0), .val (.ref a1)] [(.ref a0)])) t
      exact kt
    obtain ⟨T4, X4, e4, st4⟩ := getF X2 hx hZ hown (host := "") (Or.inl (hw _ (List.mem_of_getElem? (i := 16) rfl))) Via.refl e2 F_a0_offset (g := (mkF m 13 #[.val (.ref a0), .val (.ref a1)] [(.ref a0)])) rfl rfl (hb hby d6_13)
    refine own_go st4 ?_
    refine own_go (T' := T4) (f' := (mkF m 17 #[.val (.ref a0), .val (.ref a1)] [(.ref a1), (.long w1)])) (fun t kt => ?_) ?_
    · show Steps p.tables e below (T4.setTop (mkF m 16 #[.val (.ref a0), .val (.ref a1)] [(.long w1)])) t
      refine XS.aloadN X4.here hx rfl (hb hby d6_16) rfl rfl ?_
      show Steps p.tables e below (T4.setTop (mkF m 17 #[.val (.ref a0), .val (.ref a1)] [(.ref a1), (.long w1)])) t
      exact kt
    obtain ⟨T5, X5, e5, st5⟩ := getF X4 hx hZ hown (host := "") (Or.inl (hw _ (List.mem_of_getElem? (i := 16) rfl))) Via.refl e4 F_a1_offset (g := (mkF m 17 #[.val (.ref a0), .val (.ref a1)] [(.ref a1), (.long w1)])) rfl rfl (hb hby d6_17)
    refine own_go st5 ?_
    refine own_go (T' := T5) (f' := (mkF m 21 #[.val (.ref a0), .val (.ref a1)] [(.int (lcmpW w1 w3))])) (fun t kt => ?_) ?_
    · show Steps p.tables e below (T5.setTop (mkF m 20 #[.val (.ref a0), .val (.ref a1)] [(.long w3), (.long w1)])) t
      refine XS.lcmp X5.here hx rfl (hb hby d6_20) rfl ?_
      show Steps p.tables e below (T5.setTop (mkF m 21 #[.val (.ref a0), .val (.ref a1)] [(.int (lcmpW w1 w3))])) t
      exact kt
    by_cases hc21_6 : w3 < w1
    · refine own_go (T' := T5) (f' := (mkF m 29 #[.val (.ref a0), .val (.ref a1)] [(.int (1 : Int32))])) (fun t kt => ?_) ?_
      · show Steps p.tables e below (T5.setTop (mkF m 21 #[.val (.ref a0), .val (.ref a1)] [(.int (lcmpW w1 w3))])) t
        refine XS.ifNo X5.here hx rfl (hb hby d6_21) rfl (own_lN_le hc21_6) ?_
        show Steps p.tables e below (T5.setTop (mkF m 24 #[.val (.ref a0), .val (.ref a1)] [])) t
        refine XS.iconst X5.here hx rfl (hb hby d6_24) ?_
        show Steps p.tables e below (T5.setTop (mkF m 25 #[.val (.ref a0), .val (.ref a1)] [(.int (1 : Int32))])) t
        refine XS.goto X5.here hx rfl (pc0 := 25) (pc' := 29) rfl (hb hby d6_25) (by decide) (by decide) ?_
        show Steps p.tables e below (T5.setTop (mkF m 29 #[.val (.ref a0), .val (.ref a1)] [(.int (1 : Int32))])) t
        exact kt
      exact own_retN X5 hP hx hlk e5 (t := .boolean) hret (by simp) (hb hby d6_29) (by decide) (by decide) (z' := (1 : Int32)) (by decide) ⟨(congrArg (fun w => some (Value.int w)) (own_z_t (by simp [hc9_3, hc21_6])).symm), rfl, rfl⟩
    · refine own_go (T' := T5) (f' := (mkF m 29 #[.val (.ref a0), .val (.ref a1)] [(.int (0 : Int32))])) (fun t kt => ?_) ?_
      · show Steps p.tables e below (T5.setTop (mkF m 21 #[.val (.ref a0), .val (.ref a1)] [(.int (lcmpW w1 w3))])) t
        refine XS.ifYes X5.here hx rfl (pc0 := 21) (pc' := 28) rfl (hb hby d6_21) rfl (own_lY_le hc21_6) (by decide) (by decide) ?_
        show Steps p.tables e below (T5.setTop (mkF m 28 #[.val (.ref a0), .val (.ref a1)] [])) t
        refine XS.iconst X5.here hx rfl (hb hby d6_28) ?_
        show Steps p.tables e below (T5.setTop (mkF m 29 #[.val (.ref a0), .val (.ref a1)] [(.int (0 : Int32))])) t
        exact kt
      exact own_retN X5 hP hx hlk e5 (t := .boolean) hret (by simp) (hb hby d6_29) (by decide) (by decide) (z' := (0 : Int32)) (by decide) ⟨(congrArg (fun w => some (Value.int w)) (own_z_f (by simp [hc9_3, hc21_6])).symm), rfl, rfl⟩
  · refine own_go (T' := T2) (f' := (mkF m 29 #[.val (.ref a0), .val (.ref a1)] [(.int (0 : Int32))])) (fun t kt => ?_) ?_
    · show Steps p.tables e below (T2.setTop (mkF m 9 #[.val (.ref a0), .val (.ref a1)] [(.int (lcmpW w0 w2))])) t
      refine XS.ifYes X2.here hx rfl (pc0 := 9) (pc' := 28) rfl (hb hby d6_9) rfl (own_lY_le hc9_3) (by decide) (by decide) ?_
      show Steps p.tables e below (T2.setTop (mkF m 28 #[.val (.ref a0), .val (.ref a1)] [])) t
      refine XS.iconst X2.here hx rfl (hb hby d6_28) ?_
      show Steps p.tables e below (T2.setTop (mkF m 29 #[.val (.ref a0), .val (.ref a1)] [(.int (0 : Int32))])) t
      exact kt
    exact own_retN X2 hP hx hlk e2 (t := .boolean) hret (by simp) (hb hby d6_29) (by decide) (by decide) (z' := (0 : Int32)) (by decide) ⟨(congrArg (fun w => some (Value.int w)) (own_z_f (by simp [hc9_3])).symm), rfl, rfl⟩
theorem d5_0 : decode jdk_29_method_66_code 0 = .ok (.lload_n 0, 1) := by decide +kernel
theorem d5_1 : decode jdk_29_method_66_code 1 = .ok (.lload_n 2, 1) := by decide +kernel
theorem d5_2 : decode jdk_29_method_66_code 2 = .ok (.lcmp, 1) := by decide +kernel
theorem d5_3 : decode jdk_29_method_66_code 3 = .ok (.ifCond .lt 7, 3) := by decide +kernel
theorem d5_6 : decode jdk_29_method_66_code 6 = .ok (.lload_n 0, 1) := by decide +kernel
theorem d5_7 : decode jdk_29_method_66_code 7 = .ok (.goto 4, 3) := by decide +kernel
theorem d5_10 : decode jdk_29_method_66_code 10 = .ok (.lload_n 2, 1) := by decide +kernel
theorem d5_11 : decode jdk_29_method_66_code 11 = .ok (.lreturn, 1) := by decide +kernel
set_option maxRecDepth 65536 in
set_option maxHeartbeats 4000000 in
theorem ef_5 (m : MethodId) (q0 : Int64) (q1 : Int64) : entryFrame m #[(.long q0), (.long q1)] 4 = mkF m 0 #[.val (.long q0), .second, .val (.long q1), .second] [] := by first | (simp [entryFrame, mkF, argsToLocals, Value.category]; done) | rfl
set_option maxRecDepth 65536 in
set_option maxHeartbeats 40000000 in
theorem rm5 (l : Launch) (Z : State) (aw : Array Value) (hw : ∀ d ∈ tables_1, d.before aw Z = true) {ws : List Jvm.Cond} (q0 : Int64) (q1 : Int64)  (h0 : Heap) (n0 : Nat) (Z0 : n0 ≤ h0.size)  :
    own_Met l Z (⟨"java/lang/Math", "max", "(JJ)J"⟩ : MethodName) jdk_29_method_66_code 4 (some .long) ws ({ frames := 0, cells := 0, slots := 0, locals := 0 } : Room) #[(.long q0), (.long q1)] h0 (own_Pq (some (.long (own_maxL q0 q1))) h0) := by
  refine own_body (Jvm.Free.JP.mathPlain rfl (by decide +kernel)) ?_
  intro p e s m below meth c s₁ hx hZ hby hml hown hnm hret hlk X0 e0
  replace hown : s.vm.findClass "java/lang/Math" = some m.cls := hown
  replace hml : c.maxLocals = 4 := hml
  obtain ⟨P, hP⟩ : ∃ P, P = own_P below s (own_Pq (some (.long (own_maxL q0 q1))) h0) ({ frames := 0, cells := 0, slots := 0, locals := 0 } : Room).cells ({ frames := 0, cells := 0, slots := 0, locals := 0 } : Room).slots := ⟨_, rfl⟩
  rw [← hP]
  refine own_cast (ef_5 m q0 q1) ?_
  refine own_go (T' := s₁) (f' := (mkF m 3 #[.val (.long q0), .second, .val (.long q1), .second] [(.int (lcmpW q0 q1))])) (fun t kt => ?_) ?_
  · show Steps p.tables e below (s₁.setTop (mkF m 0 #[.val (.long q0), .second, .val (.long q1), .second] [])) t
    refine XS.lloadN X0.here hx rfl (hb hby d5_0) rfl ?_
    show Steps p.tables e below (s₁.setTop (mkF m 1 #[.val (.long q0), .second, .val (.long q1), .second] [(.long q0)])) t
    refine XS.lloadN X0.here hx rfl (hb hby d5_1) rfl ?_
    show Steps p.tables e below (s₁.setTop (mkF m 2 #[.val (.long q0), .second, .val (.long q1), .second] [(.long q1), (.long q0)])) t
    refine XS.lcmp X0.here hx rfl (hb hby d5_2) rfl ?_
    show Steps p.tables e below (s₁.setTop (mkF m 3 #[.val (.long q0), .second, .val (.long q1), .second] [(.int (lcmpW q0 q1))])) t
    exact kt
  by_cases hc3_1 : q0 < q1
  · refine own_go (T' := s₁) (f' := (mkF m 11 #[.val (.long q0), .second, .val (.long q1), .second] [(.long q1)])) (fun t kt => ?_) ?_
    · show Steps p.tables e below (s₁.setTop (mkF m 3 #[.val (.long q0), .second, .val (.long q1), .second] [(.int (lcmpW q0 q1))])) t
      refine XS.ifYes X0.here hx rfl (pc0 := 3) (pc' := 10) rfl (hb hby d5_3) rfl (own_lY_lt hc3_1) (by decide) (by decide) ?_
      show Steps p.tables e below (s₁.setTop (mkF m 10 #[.val (.long q0), .second, .val (.long q1), .second] [])) t
      refine XS.lloadN X0.here hx rfl (hb hby d5_10) rfl ?_
      show Steps p.tables e below (s₁.setTop (mkF m 11 #[.val (.long q0), .second, .val (.long q1), .second] [(.long q1)])) t
      exact kt
    exact own_retJ X0 hP hx hlk e0 hret (hb hby d5_11) (by decide) (by decide) ⟨(by unfold own_maxL; simp [hc3_1]), rfl, rfl⟩
  · refine own_go (T' := s₁) (f' := (mkF m 11 #[.val (.long q0), .second, .val (.long q1), .second] [(.long q0)])) (fun t kt => ?_) ?_
    · show Steps p.tables e below (s₁.setTop (mkF m 3 #[.val (.long q0), .second, .val (.long q1), .second] [(.int (lcmpW q0 q1))])) t
      refine XS.ifNo X0.here hx rfl (hb hby d5_3) rfl (own_lN_lt hc3_1) ?_
      show Steps p.tables e below (s₁.setTop (mkF m 6 #[.val (.long q0), .second, .val (.long q1), .second] [])) t
      refine XS.lloadN X0.here hx rfl (hb hby d5_6) rfl ?_
      show Steps p.tables e below (s₁.setTop (mkF m 7 #[.val (.long q0), .second, .val (.long q1), .second] [(.long q0)])) t
      refine XS.goto X0.here hx rfl (pc0 := 7) (pc' := 11) rfl (hb hby d5_7) (by decide) (by decide) ?_
      show Steps p.tables e below (s₁.setTop (mkF m 11 #[.val (.long q0), .second, .val (.long q1), .second] [(.long q0)])) t
      exact kt
    exact own_retJ X0 hP hx hlk e0 hret (hb hby d5_11) (by decide) (by decide) ⟨(by unfold own_maxL; simp [hc3_1]), rfl, rfl⟩
theorem pd_1 : parseMethodDescriptor "(JJ)J" = some ⟨[.long, .long], some .long⟩ := by decide +kernel
theorem pn_2 : plainName "com/example/commit_log_store/commitlogstore/io/EntryRisesPast362PinLaw" = true := by first | (simp [plainName, overriddenIn]; done) | decide +kernel
theorem d4_0 : decode method_3_code 0 = .ok (.lload_n 0, 1) := by decide +kernel
theorem d4_1 : decode method_3_code 1 = .ok (.lload_n 2, 1) := by decide +kernel
theorem d4_2 : decode method_3_code 2 = .ok (.invokestatic 22, 3) := by decide +kernel
theorem d4_5 : decode method_3_code 5 = .ok (.lload_n 0, 1) := by decide +kernel
theorem d4_6 : decode method_3_code 6 = .ok (.lcmp, 1) := by decide +kernel
theorem d4_7 : decode method_3_code 7 = .ok (.ifCond .ne 13, 3) := by decide +kernel
theorem d4_10 : decode method_3_code 10 = .ok (.lload_n 0, 1) := by decide +kernel
theorem d4_11 : decode method_3_code 11 = .ok (.lload_n 2, 1) := by decide +kernel
theorem d4_12 : decode method_3_code 12 = .ok (.lcmp, 1) := by decide +kernel
theorem d4_13 : decode method_3_code 13 = .ok (.ifCond .eq 7, 3) := by decide +kernel
theorem d4_16 : decode method_3_code 16 = .ok (.iconst 1, 1) := by decide +kernel
theorem d4_17 : decode method_3_code 17 = .ok (.goto 4, 3) := by decide +kernel
theorem d4_20 : decode method_3_code 20 = .ok (.iconst 0, 1) := by decide +kernel
theorem d4_21 : decode method_3_code 21 = .ok (.ireturn, 1) := by decide +kernel
set_option maxRecDepth 65536 in
set_option maxHeartbeats 4000000 in
theorem ef_4 (m : MethodId) (q0 : Int64) (q1 : Int64) : entryFrame m #[(.long q0), (.long q1)] 4 = mkF m 0 #[.val (.long q0), .second, .val (.long q1), .second] [] := by first | (simp [entryFrame, mkF, argsToLocals, Value.category]; done) | rfl
set_option maxRecDepth 65536 in
set_option maxHeartbeats 40000000 in
theorem rm4 (l : Launch) (Z : State) (aw : Array Value) (hw : ∀ d ∈ tables_1, d.before aw Z = true) {ws : List Jvm.Cond} (q0 : Int64) (q1 : Int64)  (h0 : Heap) (n0 : Nat) (Z0 : n0 ≤ h0.size)  :
    own_Met l Z (⟨"com/example/commit_log_store/commitlogstore/io/EntryRisesPast362PinLaw", "above", "(JJ)Z"⟩ : MethodName) method_3_code 4 (some .boolean) ws ({ frames := 1, cells := 0, slots := 0, locals := 15 } : Room) #[(.long q0), (.long q1)] h0 (own_Pq (some (.int (own_z (q1 < q0)))) h0) := by
  refine own_body (plainFor_of_name pn_2) ?_
  intro p e s m below meth c s₁ hx hZ hby hml hown hnm hret hlk X0 e0
  replace hown : s.vm.findClass "com/example/commit_log_store/commitlogstore/io/EntryRisesPast362PinLaw" = some m.cls := hown
  replace hml : c.maxLocals = 4 := hml
  obtain ⟨P, hP⟩ : ∃ P, P = own_P below s (own_Pq (some (.int (own_z (q1 < q0)))) h0) ({ frames := 1, cells := 0, slots := 0, locals := 15 } : Room).cells ({ frames := 1, cells := 0, slots := 0, locals := 15 } : Room).slots := ⟨_, rfl⟩
  rw [← hP]
  refine own_cast (ef_4 m q0 q1) ?_
  refine own_go (T' := s₁) (f' := (mkF m 2 #[.val (.long q0), .second, .val (.long q1), .second] [(.long q1), (.long q0)])) (fun t kt => ?_) ?_
  · show Steps p.tables e below (s₁.setTop (mkF m 0 #[.val (.long q0), .second, .val (.long q1), .second] [])) t
    refine XS.lloadN X0.here hx rfl (hb hby d4_0) rfl ?_
    show Steps p.tables e below (s₁.setTop (mkF m 1 #[.val (.long q0), .second, .val (.long q1), .second] [(.long q0)])) t
    refine XS.lloadN X0.here hx rfl (hb hby d4_1) rfl ?_
    show Steps p.tables e below (s₁.setTop (mkF m 2 #[.val (.long q0), .second, .val (.long q1), .second] [(.long q1), (.long q0)])) t
    exact kt
  refine own_callSp X0 hx hZ hown e0 (hw _ (List.mem_of_getElem? (i := 22) rfl)) (hw _ (List.mem_of_getElem? (i := 23) rfl)) (hw _ (List.mem_of_getElem? (i := 24) rfl)) (hw _ (List.mem_of_getElem? (i := 25) rfl)) (by decide) (rm5 l Z aw hw q0 q1 h0 n0 Z0) (g := (mkF m 2 #[.val (.long q0), .second, .val (.long q1), .second] [(.long q1), (.long q0)])) rfl (by rw [hml]; rfl) (argsL := [(.long q0), (.long q1)]) (rest := []) (lenOf pd_1 rfl) rfl rfl (W := 0) (by show 2 * 0 + _ ≤ _; exact Nat.le_of_eq rfl) (hb hby d4_2) (by decide) (by decide) (by decide) (by decide) ?_
  intro T1 X1 e1
  refine own_go (T' := T1) (f' := (mkF m 7 #[.val (.long q0), .second, .val (.long q1), .second] [(.int (lcmpW (own_maxL q0 q1) q0))])) (fun t kt => ?_) ?_
  · show Steps p.tables e below (T1.setTop (mkF m 5 #[.val (.long q0), .second, .val (.long q1), .second] [(.long (own_maxL q0 q1))])) t
    refine XS.lloadN X1.here hx rfl (hb hby d4_5) rfl ?_
    show Steps p.tables e below (T1.setTop (mkF m 6 #[.val (.long q0), .second, .val (.long q1), .second] [(.long q0), (.long (own_maxL q0 q1))])) t
    refine XS.lcmp X1.here hx rfl (hb hby d4_6) rfl ?_
    show Steps p.tables e below (T1.setTop (mkF m 7 #[.val (.long q0), .second, .val (.long q1), .second] [(.int (lcmpW (own_maxL q0 q1) q0))])) t
    exact kt
  by_cases hc7_2 : (own_maxL q0 q1) = q0
  · refine own_go (T' := T1) (f' := (mkF m 13 #[.val (.long q0), .second, .val (.long q1), .second] [(.int (lcmpW q0 q1))])) (fun t kt => ?_) ?_
    · show Steps p.tables e below (T1.setTop (mkF m 7 #[.val (.long q0), .second, .val (.long q1), .second] [(.int (lcmpW (own_maxL q0 q1) q0))])) t
      refine XS.ifNo X1.here hx rfl (hb hby d4_7) rfl (own_lN_ne hc7_2) ?_
      show Steps p.tables e below (T1.setTop (mkF m 10 #[.val (.long q0), .second, .val (.long q1), .second] [])) t
      refine XS.lloadN X1.here hx rfl (hb hby d4_10) rfl ?_
      show Steps p.tables e below (T1.setTop (mkF m 11 #[.val (.long q0), .second, .val (.long q1), .second] [(.long q0)])) t
      refine XS.lloadN X1.here hx rfl (hb hby d4_11) rfl ?_
      show Steps p.tables e below (T1.setTop (mkF m 12 #[.val (.long q0), .second, .val (.long q1), .second] [(.long q1), (.long q0)])) t
      refine XS.lcmp X1.here hx rfl (hb hby d4_12) rfl ?_
      show Steps p.tables e below (T1.setTop (mkF m 13 #[.val (.long q0), .second, .val (.long q1), .second] [(.int (lcmpW q0 q1))])) t
      exact kt
    by_cases hc13_3 : q0 = q1
    · refine own_go (T' := T1) (f' := (mkF m 21 #[.val (.long q0), .second, .val (.long q1), .second] [(.int (0 : Int32))])) (fun t kt => ?_) ?_
      · show Steps p.tables e below (T1.setTop (mkF m 13 #[.val (.long q0), .second, .val (.long q1), .second] [(.int (lcmpW q0 q1))])) t
        refine XS.ifYes X1.here hx rfl (pc0 := 13) (pc' := 20) rfl (hb hby d4_13) rfl (own_lY_eq hc13_3) (by decide) (by decide) ?_
        show Steps p.tables e below (T1.setTop (mkF m 20 #[.val (.long q0), .second, .val (.long q1), .second] [])) t
        refine XS.iconst X1.here hx rfl (hb hby d4_20) ?_
        show Steps p.tables e below (T1.setTop (mkF m 21 #[.val (.long q0), .second, .val (.long q1), .second] [(.int (0 : Int32))])) t
        exact kt
      exact own_retN X1 hP hx hlk e1 (t := .boolean) hret (by simp) (hb hby d4_21) (by decide) (by decide) (z' := (0 : Int32)) (by decide) ⟨(congrArg (fun w => some (Value.int w)) (own_z_f (own_ab1 hc13_3)).symm), rfl, rfl⟩
    · refine own_go (T' := T1) (f' := (mkF m 21 #[.val (.long q0), .second, .val (.long q1), .second] [(.int (1 : Int32))])) (fun t kt => ?_) ?_
      · show Steps p.tables e below (T1.setTop (mkF m 13 #[.val (.long q0), .second, .val (.long q1), .second] [(.int (lcmpW q0 q1))])) t
        refine XS.ifNo X1.here hx rfl (hb hby d4_13) rfl (own_lN_eq hc13_3) ?_
        show Steps p.tables e below (T1.setTop (mkF m 16 #[.val (.long q0), .second, .val (.long q1), .second] [])) t
        refine XS.iconst X1.here hx rfl (hb hby d4_16) ?_
        show Steps p.tables e below (T1.setTop (mkF m 17 #[.val (.long q0), .second, .val (.long q1), .second] [(.int (1 : Int32))])) t
        refine XS.goto X1.here hx rfl (pc0 := 17) (pc' := 21) rfl (hb hby d4_17) (by decide) (by decide) ?_
        show Steps p.tables e below (T1.setTop (mkF m 21 #[.val (.long q0), .second, .val (.long q1), .second] [(.int (1 : Int32))])) t
        exact kt
      exact own_retN X1 hP hx hlk e1 (t := .boolean) hret (by simp) (hb hby d4_21) (by decide) (by decide) (z' := (1 : Int32)) (by decide) ⟨(congrArg (fun w => some (Value.int w)) (own_z_t (own_ab2 hc7_2 hc13_3)).symm), rfl, rfl⟩
  · refine own_go (T' := T1) (f' := (mkF m 21 #[.val (.long q0), .second, .val (.long q1), .second] [(.int (0 : Int32))])) (fun t kt => ?_) ?_
    · show Steps p.tables e below (T1.setTop (mkF m 7 #[.val (.long q0), .second, .val (.long q1), .second] [(.int (lcmpW (own_maxL q0 q1) q0))])) t
      refine XS.ifYes X1.here hx rfl (pc0 := 7) (pc' := 20) rfl (hb hby d4_7) rfl (own_lY_ne hc7_2) (by decide) (by decide) ?_
      show Steps p.tables e below (T1.setTop (mkF m 20 #[.val (.long q0), .second, .val (.long q1), .second] [])) t
      refine XS.iconst X1.here hx rfl (hb hby d4_20) ?_
      show Steps p.tables e below (T1.setTop (mkF m 21 #[.val (.long q0), .second, .val (.long q1), .second] [(.int (0 : Int32))])) t
      exact kt
    exact own_retN X1 hP hx hlk e1 (t := .boolean) hret (by simp) (hb hby d4_21) (by decide) (by decide) (z' := (0 : Int32)) (by decide) ⟨(congrArg (fun w => some (Value.int w)) (own_z_f (own_ab0 hc7_2)).symm), rfl, rfl⟩
theorem pd_2 : parseMethodDescriptor "(JJ)V" = some ⟨[.long, .long], none⟩ := by decide +kernel
theorem pd_3 : parseMethodDescriptor "(JJ)Z" = some ⟨[.long, .long], some .boolean⟩ := by decide +kernel
theorem pd_4 : parseMethodDescriptor "(Lcom/example/commit_log_store/commitlogstore/io/TimeIndex$Entry;)Z" = some ⟨[(.object "com/example/commit_log_store/commitlogstore/io/TimeIndex$Entry")], some .boolean⟩ := by decide +kernel
set_option maxRecDepth 65536 in
set_option maxHeartbeats 4000000 in
theorem ef_0 (m : MethodId) (q0 : Int64) (q1 : Int64) (q2 : Int64) (q3 : Int64) (p4 : Int32) : entryFrame m #[(.long q0), (.long q1), (.long q2), (.long q3), (.int p4)] maxLocals = mkF m 0 #[.val (.long q0), .second, .val (.long q1), .second, .val (.long q2), .second, .val (.long q3), .second, .val (.int p4), .unset, .unset, .unset, .unset, .unset, .unset, .unset, .unset, .unset, .unset, .unset, .unset, .unset, .unset] [] := by first | (simp [entryFrame, mkF, argsToLocals, Value.category, maxLocals]; done) | rfl
set_option maxRecDepth 65536 in
set_option maxHeartbeats 40000000 in
theorem rm0 (l : Launch) (Z : State) (aw : Array Value) (hw : ∀ d ∈ tables_1, d.before aw Z = true) {ws : List Jvm.Cond} (q0 : Int64) (q1 : Int64) (q2 : Int64) (q3 : Int64) (p4 : Int32)  (h0 : Heap) (n0 : Nat) (Z0 : n0 ≤ h0.size)  :
    own_Met l Z x code maxLocals ret ws room_1 #[(.long q0), (.long q1), (.long q2), (.long q3), (.int p4)] h0 (fun v h L => v = some (.int 1) ∧ Fr n0 L) := by
  refine own_body (plainFor_of_name pn_2) ?_
  intro p e s m below meth c s₁ hx hZ hby hml hown hnm hret hlk X0 e0
  replace hown : s.vm.findClass "com/example/commit_log_store/commitlogstore/io/EntryRisesPast362PinLaw" = some m.cls := hown
  replace hml : c.maxLocals = 23 := hml
  have N0 := Fr.nil n0
  have K0 := Keep.refl h0 []
  obtain ⟨P, hP⟩ : ∃ P, P = own_P below s (fun v h L => v = some (.int 1) ∧ Fr n0 L) room_1.cells room_1.slots := ⟨_, rfl⟩
  rw [← hP]
  refine own_cast (ef_0 m q0 q1 q2 q3 p4) ?_
  refine own_go (T' := s₁) (f' := (mkF m 18 #[.val (.long q0), .second, .val (.long q1), .second, .val (.long q2), .second, .val (.long q3), .second, .val (.int p4), .val (.long q0), .second, .val (.long q1), .second, .val (.long q2), .second, .val (.long q3), .second, .unset, .unset, .unset, .unset, .unset, .unset] [(.int (p4 &&& (3 : Int32)))])) (fun t kt => ?_) ?_
  · show Steps p.tables e below (s₁.setTop (mkF m 0 #[.val (.long q0), .second, .val (.long q1), .second, .val (.long q2), .second, .val (.long q3), .second, .val (.int p4), .unset, .unset, .unset, .unset, .unset, .unset, .unset, .unset, .unset, .unset, .unset, .unset, .unset, .unset] [])) t
    refine XS.lloadN X0.here hx rfl (hb hby at_0) rfl ?_
    show Steps p.tables e below (s₁.setTop (mkF m 1 #[.val (.long q0), .second, .val (.long q1), .second, .val (.long q2), .second, .val (.long q3), .second, .val (.int p4), .unset, .unset, .unset, .unset, .unset, .unset, .unset, .unset, .unset, .unset, .unset, .unset, .unset, .unset] [(.long q0)])) t
    refine XS.lstore X0.here hx rfl (hb hby at_1) rfl (l' := #[.val (.long q0), .second, .val (.long q1), .second, .val (.long q2), .second, .val (.long q3), .second, .val (.int p4), .val (.long q0), .second, .unset, .unset, .unset, .unset, .unset, .unset, .unset, .unset, .unset, .unset, .unset, .unset]) rfl ?_
    show Steps p.tables e below (s₁.setTop (mkF m 3 #[.val (.long q0), .second, .val (.long q1), .second, .val (.long q2), .second, .val (.long q3), .second, .val (.int p4), .val (.long q0), .second, .unset, .unset, .unset, .unset, .unset, .unset, .unset, .unset, .unset, .unset, .unset, .unset] [])) t
    refine XS.lloadN X0.here hx rfl (hb hby at_3) rfl ?_
    show Steps p.tables e below (s₁.setTop (mkF m 4 #[.val (.long q0), .second, .val (.long q1), .second, .val (.long q2), .second, .val (.long q3), .second, .val (.int p4), .val (.long q0), .second, .unset, .unset, .unset, .unset, .unset, .unset, .unset, .unset, .unset, .unset, .unset, .unset] [(.long q1)])) t
    refine XS.lstore X0.here hx rfl (hb hby at_4) rfl (l' := #[.val (.long q0), .second, .val (.long q1), .second, .val (.long q2), .second, .val (.long q3), .second, .val (.int p4), .val (.long q0), .second, .val (.long q1), .second, .unset, .unset, .unset, .unset, .unset, .unset, .unset, .unset, .unset, .unset]) rfl ?_
    show Steps p.tables e below (s₁.setTop (mkF m 6 #[.val (.long q0), .second, .val (.long q1), .second, .val (.long q2), .second, .val (.long q3), .second, .val (.int p4), .val (.long q0), .second, .val (.long q1), .second, .unset, .unset, .unset, .unset, .unset, .unset, .unset, .unset, .unset, .unset] [])) t
    refine XS.lload X0.here hx rfl (hb hby at_6) rfl ?_
    show Steps p.tables e below (s₁.setTop (mkF m 8 #[.val (.long q0), .second, .val (.long q1), .second, .val (.long q2), .second, .val (.long q3), .second, .val (.int p4), .val (.long q0), .second, .val (.long q1), .second, .unset, .unset, .unset, .unset, .unset, .unset, .unset, .unset, .unset, .unset] [(.long q2)])) t
    refine XS.lstore X0.here hx rfl (hb hby at_8) rfl (l' := #[.val (.long q0), .second, .val (.long q1), .second, .val (.long q2), .second, .val (.long q3), .second, .val (.int p4), .val (.long q0), .second, .val (.long q1), .second, .val (.long q2), .second, .unset, .unset, .unset, .unset, .unset, .unset, .unset, .unset]) rfl ?_
    show Steps p.tables e below (s₁.setTop (mkF m 10 #[.val (.long q0), .second, .val (.long q1), .second, .val (.long q2), .second, .val (.long q3), .second, .val (.int p4), .val (.long q0), .second, .val (.long q1), .second, .val (.long q2), .second, .unset, .unset, .unset, .unset, .unset, .unset, .unset, .unset] [])) t
    refine XS.lload X0.here hx rfl (hb hby at_10) rfl ?_
    show Steps p.tables e below (s₁.setTop (mkF m 12 #[.val (.long q0), .second, .val (.long q1), .second, .val (.long q2), .second, .val (.long q3), .second, .val (.int p4), .val (.long q0), .second, .val (.long q1), .second, .val (.long q2), .second, .unset, .unset, .unset, .unset, .unset, .unset, .unset, .unset] [(.long q3)])) t
    refine XS.lstore X0.here hx rfl (hb hby at_12) rfl (l' := #[.val (.long q0), .second, .val (.long q1), .second, .val (.long q2), .second, .val (.long q3), .second, .val (.int p4), .val (.long q0), .second, .val (.long q1), .second, .val (.long q2), .second, .val (.long q3), .second, .unset, .unset, .unset, .unset, .unset, .unset]) rfl ?_
    show Steps p.tables e below (s₁.setTop (mkF m 14 #[.val (.long q0), .second, .val (.long q1), .second, .val (.long q2), .second, .val (.long q3), .second, .val (.int p4), .val (.long q0), .second, .val (.long q1), .second, .val (.long q2), .second, .val (.long q3), .second, .unset, .unset, .unset, .unset, .unset, .unset] [])) t
    refine XS.iload X0.here hx rfl (hb hby at_14) rfl ?_
    show Steps p.tables e below (s₁.setTop (mkF m 16 #[.val (.long q0), .second, .val (.long q1), .second, .val (.long q2), .second, .val (.long q3), .second, .val (.int p4), .val (.long q0), .second, .val (.long q1), .second, .val (.long q2), .second, .val (.long q3), .second, .unset, .unset, .unset, .unset, .unset, .unset] [(.int p4)])) t
    refine XS.iconst X0.here hx rfl (hb hby at_16) ?_
    show Steps p.tables e below (s₁.setTop (mkF m 17 #[.val (.long q0), .second, .val (.long q1), .second, .val (.long q2), .second, .val (.long q3), .second, .val (.int p4), .val (.long q0), .second, .val (.long q1), .second, .val (.long q2), .second, .val (.long q3), .second, .unset, .unset, .unset, .unset, .unset, .unset] [(.int (3 : Int32)), (.int p4)])) t
    refine XS.iand X0.here hx rfl (hb hby at_17) rfl ?_
    show Steps p.tables e below (s₁.setTop (mkF m 18 #[.val (.long q0), .second, .val (.long q1), .second, .val (.long q2), .second, .val (.long q3), .second, .val (.int p4), .val (.long q0), .second, .val (.long q1), .second, .val (.long q2), .second, .val (.long q3), .second, .unset, .unset, .unset, .unset, .unset, .unset] [(.int (p4 &&& (3 : Int32)))])) t
    exact kt
  obtain ⟨ms, hms⟩ : ∃ z, z = (p4 &&& (3 : Int32)) := ⟨_, rfl⟩
  rw [← hms]
  refine own_go (T' := s₁) (f' := (mkF m 26 #[.val (.long q0), .second, .val (.long q1), .second, .val (.long q2), .second, .val (.long q3), .second, .val (.int p4), .val (.long q0), .second, .val (.long q1), .second, .val (.long q2), .second, .val (.long q3), .second, .val (.int ms), .unset, .unset, .unset, .unset, .unset] [(.int (((p4.toUInt32 >>> ((2 : Int32) &&& 31).toUInt32).toInt32) &&& (3 : Int32)))])) (fun t kt => ?_) ?_
  · show Steps p.tables e below (s₁.setTop (mkF m 18 #[.val (.long q0), .second, .val (.long q1), .second, .val (.long q2), .second, .val (.long q3), .second, .val (.int p4), .val (.long q0), .second, .val (.long q1), .second, .val (.long q2), .second, .val (.long q3), .second, .unset, .unset, .unset, .unset, .unset, .unset] [(.int ms)])) t
    refine XS.istore X0.here hx rfl (hb hby at_18) rfl (l' := #[.val (.long q0), .second, .val (.long q1), .second, .val (.long q2), .second, .val (.long q3), .second, .val (.int p4), .val (.long q0), .second, .val (.long q1), .second, .val (.long q2), .second, .val (.long q3), .second, .val (.int ms), .unset, .unset, .unset, .unset, .unset]) rfl ?_
    show Steps p.tables e below (s₁.setTop (mkF m 20 #[.val (.long q0), .second, .val (.long q1), .second, .val (.long q2), .second, .val (.long q3), .second, .val (.int p4), .val (.long q0), .second, .val (.long q1), .second, .val (.long q2), .second, .val (.long q3), .second, .val (.int ms), .unset, .unset, .unset, .unset, .unset] [])) t
    refine XS.iload X0.here hx rfl (hb hby at_20) rfl ?_
    show Steps p.tables e below (s₁.setTop (mkF m 22 #[.val (.long q0), .second, .val (.long q1), .second, .val (.long q2), .second, .val (.long q3), .second, .val (.int p4), .val (.long q0), .second, .val (.long q1), .second, .val (.long q2), .second, .val (.long q3), .second, .val (.int ms), .unset, .unset, .unset, .unset, .unset] [(.int p4)])) t
    refine XS.iconst X0.here hx rfl (hb hby at_22) ?_
    show Steps p.tables e below (s₁.setTop (mkF m 23 #[.val (.long q0), .second, .val (.long q1), .second, .val (.long q2), .second, .val (.long q3), .second, .val (.int p4), .val (.long q0), .second, .val (.long q1), .second, .val (.long q2), .second, .val (.long q3), .second, .val (.int ms), .unset, .unset, .unset, .unset, .unset] [(.int (2 : Int32)), (.int p4)])) t
    refine XS.iushr X0.here hx rfl (hb hby at_23) rfl ?_
    show Steps p.tables e below (s₁.setTop (mkF m 24 #[.val (.long q0), .second, .val (.long q1), .second, .val (.long q2), .second, .val (.long q3), .second, .val (.int p4), .val (.long q0), .second, .val (.long q1), .second, .val (.long q2), .second, .val (.long q3), .second, .val (.int ms), .unset, .unset, .unset, .unset, .unset] [(.int ((p4.toUInt32 >>> ((2 : Int32) &&& 31).toUInt32).toInt32))])) t
    refine XS.iconst X0.here hx rfl (hb hby at_24) ?_
    show Steps p.tables e below (s₁.setTop (mkF m 25 #[.val (.long q0), .second, .val (.long q1), .second, .val (.long q2), .second, .val (.long q3), .second, .val (.int p4), .val (.long q0), .second, .val (.long q1), .second, .val (.long q2), .second, .val (.long q3), .second, .val (.int ms), .unset, .unset, .unset, .unset, .unset] [(.int (3 : Int32)), (.int ((p4.toUInt32 >>> ((2 : Int32) &&& 31).toUInt32).toInt32))])) t
    refine XS.iand X0.here hx rfl (hb hby at_25) rfl ?_
    show Steps p.tables e below (s₁.setTop (mkF m 26 #[.val (.long q0), .second, .val (.long q1), .second, .val (.long q2), .second, .val (.long q3), .second, .val (.int p4), .val (.long q0), .second, .val (.long q1), .second, .val (.long q2), .second, .val (.long q3), .second, .val (.int ms), .unset, .unset, .unset, .unset, .unset] [(.int (((p4.toUInt32 >>> ((2 : Int32) &&& 31).toUInt32).toInt32) &&& (3 : Int32)))])) t
    exact kt
  obtain ⟨ns, hns⟩ : ∃ z, z = (((p4.toUInt32 >>> ((2 : Int32) &&& 31).toUInt32).toInt32) &&& (3 : Int32)) := ⟨_, rfl⟩
  rw [← hns]
  refine own_go (T' := s₁) (f' := (mkF m 28 #[.val (.long q0), .second, .val (.long q1), .second, .val (.long q2), .second, .val (.long q3), .second, .val (.int p4), .val (.long q0), .second, .val (.long q1), .second, .val (.long q2), .second, .val (.long q3), .second, .val (.int ms), .val (.int ns), .unset, .unset, .unset, .unset] [])) (fun t kt => ?_) ?_
  · show Steps p.tables e below (s₁.setTop (mkF m 26 #[.val (.long q0), .second, .val (.long q1), .second, .val (.long q2), .second, .val (.long q3), .second, .val (.int p4), .val (.long q0), .second, .val (.long q1), .second, .val (.long q2), .second, .val (.long q3), .second, .val (.int ms), .unset, .unset, .unset, .unset, .unset] [(.int ns)])) t
    refine XS.istore X0.here hx rfl (hb hby at_26) rfl (l' := #[.val (.long q0), .second, .val (.long q1), .second, .val (.long q2), .second, .val (.long q3), .second, .val (.int p4), .val (.long q0), .second, .val (.long q1), .second, .val (.long q2), .second, .val (.long q3), .second, .val (.int ms), .val (.int ns), .unset, .unset, .unset, .unset]) rfl ?_
    show Steps p.tables e below (s₁.setTop (mkF m 28 #[.val (.long q0), .second, .val (.long q1), .second, .val (.long q2), .second, .val (.long q3), .second, .val (.int p4), .val (.long q0), .second, .val (.long q1), .second, .val (.long q2), .second, .val (.long q3), .second, .val (.int ms), .val (.int ns), .unset, .unset, .unset, .unset] [])) t
    exact kt
  have J108 : ∀ (Tj1 : State) (lj1 : List Loc) (tb : Int64) (ob : Int64) (Xj1 : Stand p l e room_1 s m #[(.long q0), (.long q1), (.long q2), (.long q3), (.int p4)] below meth c Tj1 lj1 0 0) (Nj1 : Fr n0 lj1) (ej1 : Tj1.heap = h0), own_End p e below P Tj1 (mkF m 108 #[.val (.long q0), .second, .val (.long q1), .second, .val (.long q2), .second, .val (.long q3), .second, .val (.int p4), .val (.long q0), .second, .val (.long q1), .second, .val (.long tb), .second, .val (.long ob), .second, .val (.int ms), .val (.int ns), .unset, .unset, .unset, .unset] []) := by
    intro Tj1 lj1 tb ob Xj1 Nj1 ej1
    obtain ⟨T2, h2, X2, e2, E2, A2, D2, U2, st2⟩ := newO Xj1 hx hZ hown (hw _ (List.mem_of_getElem? (i := 0) rfl)) (hw _ (List.mem_of_getElem? (i := 1) rfl)) (hw _ (List.mem_of_getElem? (i := 2) rfl)) ej1 (g := (mkF m 108 #[.val (.long q0), .second, .val (.long q1), .second, .val (.long q2), .second, .val (.long q3), .second, .val (.int p4), .val (.long q0), .second, .val (.long q1), .second, .val (.long tb), .second, .val (.long ob), .second, .val (.int ms), .val (.int ns), .unset, .unset, .unset, .unset] [])) rfl (hb hby at_108) (by decide) (by decide)
    obtain ⟨b2, y2⟩ : ∃ z, z = h0.size := ⟨_, rfl⟩
    rw [← y2] at A2 D2 U2 st2
    have g_b2 : n0 ≤ b2 := Nat.le_trans Z0 (Nat.le_of_eq y2.symm)
    have sz_b2 : h0.size ≤ b2 := Nat.le_trans K0.1 (Nat.le_of_eq y2.symm)
    have ZE2 : n0 ≤ h2.size := Nat.le_trans Z0 E2.1
    have KKE2 := K0.ext E2
    refine own_go st2 ?_
    have K_b2 := own_K_new U2
    refine own_go (T' := T2) (f' := (mkF m 116 #[.val (.long q0), .second, .val (.long q1), .second, .val (.long q2), .second, .val (.long q3), .second, .val (.int p4), .val (.long q0), .second, .val (.long q1), .second, .val (.long tb), .second, .val (.long ob), .second, .val (.int ms), .val (.int ns), .unset, .unset, .unset, .unset] [(.long q1), (.long q0), (.ref b2), (.ref b2)])) (fun t kt => ?_) ?_
    · show Steps p.tables e below (T2.setTop (mkF m 111 #[.val (.long q0), .second, .val (.long q1), .second, .val (.long q2), .second, .val (.long q3), .second, .val (.int p4), .val (.long q0), .second, .val (.long q1), .second, .val (.long tb), .second, .val (.long ob), .second, .val (.int ms), .val (.int ns), .unset, .unset, .unset, .unset] [(.ref b2)])) t
      refine XS.dup X2.here hx rfl (hb hby at_111) rfl rfl ?_
      show Steps p.tables e below (T2.setTop (mkF m 112 #[.val (.long q0), .second, .val (.long q1), .second, .val (.long q2), .second, .val (.long q3), .second, .val (.int p4), .val (.long q0), .second, .val (.long q1), .second, .val (.long tb), .second, .val (.long ob), .second, .val (.int ms), .val (.int ns), .unset, .unset, .unset, .unset] [(.ref b2), (.ref b2)])) t
      refine XS.lload X2.here hx rfl (hb hby at_112) rfl ?_
      show Steps p.tables e below (T2.setTop (mkF m 114 #[.val (.long q0), .second, .val (.long q1), .second, .val (.long q2), .second, .val (.long q3), .second, .val (.int p4), .val (.long q0), .second, .val (.long q1), .second, .val (.long tb), .second, .val (.long ob), .second, .val (.int ms), .val (.int ns), .unset, .unset, .unset, .unset] [(.long q0), (.ref b2), (.ref b2)])) t
      refine XS.lload X2.here hx rfl (hb hby at_114) rfl ?_
      show Steps p.tables e below (T2.setTop (mkF m 116 #[.val (.long q0), .second, .val (.long q1), .second, .val (.long q2), .second, .val (.long q3), .second, .val (.int p4), .val (.long q0), .second, .val (.long q1), .second, .val (.long tb), .second, .val (.long ob), .second, .val (.int ms), .val (.int ns), .unset, .unset, .unset, .unset] [(.long q1), (.long q0), (.ref b2), (.ref b2)])) t
      exact kt
    refine own_callC X2 hx hZ hown e2 rfl (hw _ (List.mem_of_getElem? (i := 3) rfl)) (hw _ (List.mem_of_getElem? (i := 4) rfl)) (hw _ (List.mem_of_getElem? (i := 2) rfl)) (hw _ (List.mem_of_getElem? (i := 5) rfl)) (by decide) (rm1 l Z aw hw b2 q0 q1 h2 n0 ZE2 A2 K_b2 g_b2) (g := (mkF m 116 #[.val (.long q0), .second, .val (.long q1), .second, .val (.long q2), .second, .val (.long q3), .second, .val (.int p4), .val (.long q0), .second, .val (.long q1), .second, .val (.long tb), .second, .val (.long ob), .second, .val (.int ms), .val (.int ns), .unset, .unset, .unset, .unset] [(.long q1), (.long q0), (.ref b2), (.ref b2)])) rfl (by rw [hml]; rfl) (argsL := [(.long q0), (.long q1)]) (rest := [(.ref b2)]) (lenOf pd_2 rfl) rfl rfl (W := 1) (by show 2 * 0 + _ ≤ _; exact Nat.le_of_eq rfl) (hb hby at_116) (by decide) (by decide) (by decide) (by decide) ?_
    rintro _ T3 L3 X3 ⟨rfl, Nq3, Kq3, Pq3_0, Pq3_1, Pq3_2⟩
    have N3 := Fr.app Nj1 Nq3
    replace A2 := (A2.keep Kq3)
    replace K_b2 := own_K_keep K_b2 Kq3
    have ZKq3 : n0 ≤ T3.heap.size := Nat.le_trans ZE2 Kq3.1
    have KKKq3 := KKE2.trans Kq3 ((allS (Or.inr sz_b2) all0))
    refine own_go (T' := T3) (f' := (mkF m 121 #[.val (.long q0), .second, .val (.long q1), .second, .val (.long q2), .second, .val (.long q3), .second, .val (.int p4), .val (.long q0), .second, .val (.long q1), .second, .val (.long tb), .second, .val (.long ob), .second, .val (.int ms), .val (.int ns), .val (.ref b2), .unset, .unset, .unset] [])) (fun t kt => ?_) ?_
    · show Steps p.tables e below (T3.setTop (mkF m 119 #[.val (.long q0), .second, .val (.long q1), .second, .val (.long q2), .second, .val (.long q3), .second, .val (.int p4), .val (.long q0), .second, .val (.long q1), .second, .val (.long tb), .second, .val (.long ob), .second, .val (.int ms), .val (.int ns), .unset, .unset, .unset, .unset] [(.ref b2)])) t
      refine XS.astore X3.here hx rfl (hb hby at_119) rfl rfl (l' := #[.val (.long q0), .second, .val (.long q1), .second, .val (.long q2), .second, .val (.long q3), .second, .val (.int p4), .val (.long q0), .second, .val (.long q1), .second, .val (.long tb), .second, .val (.long ob), .second, .val (.int ms), .val (.int ns), .val (.ref b2), .unset, .unset, .unset]) rfl ?_
      show Steps p.tables e below (T3.setTop (mkF m 121 #[.val (.long q0), .second, .val (.long q1), .second, .val (.long q2), .second, .val (.long q3), .second, .val (.int p4), .val (.long q0), .second, .val (.long q1), .second, .val (.long tb), .second, .val (.long ob), .second, .val (.int ms), .val (.int ns), .val (.ref b2), .unset, .unset, .unset] [])) t
      exact kt
    obtain ⟨T4, h4, X4, e4, E4, A4, D4, U4, st4⟩ := newO X3 hx hZ hown (hw _ (List.mem_of_getElem? (i := 0) rfl)) (hw _ (List.mem_of_getElem? (i := 1) rfl)) (hw _ (List.mem_of_getElem? (i := 2) rfl)) rfl (g := (mkF m 121 #[.val (.long q0), .second, .val (.long q1), .second, .val (.long q2), .second, .val (.long q3), .second, .val (.int p4), .val (.long q0), .second, .val (.long q1), .second, .val (.long tb), .second, .val (.long ob), .second, .val (.int ms), .val (.int ns), .val (.ref b2), .unset, .unset, .unset] [])) rfl (hb hby at_121) (by decide) (by decide)
    obtain ⟨b4, y4⟩ : ∃ z, z = T3.heap.size := ⟨_, rfl⟩
    rw [← y4] at A4 D4 U4 st4
    have ne_b2_b4 : b2 ≠ b4 := Nat.ne_of_lt (Nat.lt_of_lt_of_le Pq3_0.lt (Nat.le_of_eq y4.symm))
    have ne_b4_b2 := ne_b2_b4.symm
    have g_b4 : n0 ≤ b4 := Nat.le_trans ZKq3 (Nat.le_of_eq y4.symm)
    have sz_b4 : h0.size ≤ b4 := Nat.le_trans KKKq3.1 (Nat.le_of_eq y4.symm)
    replace Pq3_0 := (Pq3_0.ext E4)
    replace Pq3_1 := (Pq3_1.ext E4)
    replace Pq3_2 := (Pq3_2.ext E4)
    have ZE4 : n0 ≤ h4.size := Nat.le_trans ZKq3 E4.1
    have KKE4 := KKKq3.ext E4
    refine own_go st4 ?_
    have K_b4 := own_K_new U4
    refine own_go (T' := T4) (f' := (mkF m 129 #[.val (.long q0), .second, .val (.long q1), .second, .val (.long q2), .second, .val (.long q3), .second, .val (.int p4), .val (.long q0), .second, .val (.long q1), .second, .val (.long tb), .second, .val (.long ob), .second, .val (.int ms), .val (.int ns), .val (.ref b2), .unset, .unset, .unset] [(.long ob), (.long tb), (.ref b4), (.ref b4)])) (fun t kt => ?_) ?_
    · show Steps p.tables e below (T4.setTop (mkF m 124 #[.val (.long q0), .second, .val (.long q1), .second, .val (.long q2), .second, .val (.long q3), .second, .val (.int p4), .val (.long q0), .second, .val (.long q1), .second, .val (.long tb), .second, .val (.long ob), .second, .val (.int ms), .val (.int ns), .val (.ref b2), .unset, .unset, .unset] [(.ref b4)])) t
      refine XS.dup X4.here hx rfl (hb hby at_124) rfl rfl ?_
      show Steps p.tables e below (T4.setTop (mkF m 125 #[.val (.long q0), .second, .val (.long q1), .second, .val (.long q2), .second, .val (.long q3), .second, .val (.int p4), .val (.long q0), .second, .val (.long q1), .second, .val (.long tb), .second, .val (.long ob), .second, .val (.int ms), .val (.int ns), .val (.ref b2), .unset, .unset, .unset] [(.ref b4), (.ref b4)])) t
      refine XS.lload X4.here hx rfl (hb hby at_125) rfl ?_
      show Steps p.tables e below (T4.setTop (mkF m 127 #[.val (.long q0), .second, .val (.long q1), .second, .val (.long q2), .second, .val (.long q3), .second, .val (.int p4), .val (.long q0), .second, .val (.long q1), .second, .val (.long tb), .second, .val (.long ob), .second, .val (.int ms), .val (.int ns), .val (.ref b2), .unset, .unset, .unset] [(.long tb), (.ref b4), (.ref b4)])) t
      refine XS.lload X4.here hx rfl (hb hby at_127) rfl ?_
      show Steps p.tables e below (T4.setTop (mkF m 129 #[.val (.long q0), .second, .val (.long q1), .second, .val (.long q2), .second, .val (.long q3), .second, .val (.int p4), .val (.long q0), .second, .val (.long q1), .second, .val (.long tb), .second, .val (.long ob), .second, .val (.int ms), .val (.int ns), .val (.ref b2), .unset, .unset, .unset] [(.long ob), (.long tb), (.ref b4), (.ref b4)])) t
      exact kt
    refine own_callC X4 hx hZ hown e4 rfl (hw _ (List.mem_of_getElem? (i := 3) rfl)) (hw _ (List.mem_of_getElem? (i := 4) rfl)) (hw _ (List.mem_of_getElem? (i := 2) rfl)) (hw _ (List.mem_of_getElem? (i := 5) rfl)) (by decide) (rm1 l Z aw hw b4 tb ob h4 n0 ZE4 A4 K_b4 g_b4) (g := (mkF m 129 #[.val (.long q0), .second, .val (.long q1), .second, .val (.long q2), .second, .val (.long q3), .second, .val (.int p4), .val (.long q0), .second, .val (.long q1), .second, .val (.long tb), .second, .val (.long ob), .second, .val (.int ms), .val (.int ns), .val (.ref b2), .unset, .unset, .unset] [(.long ob), (.long tb), (.ref b4), (.ref b4)])) rfl (by rw [hml]; rfl) (argsL := [(.long tb), (.long ob)]) (rest := [(.ref b4)]) (lenOf pd_2 rfl) rfl rfl (W := 1) (by show 2 * 0 + _ ≤ _; exact Nat.le_of_eq rfl) (hb hby at_129) (by decide) (by decide) (by decide) (by decide) ?_
    rintro _ T5 L5 X5 ⟨rfl, Nq5, Kq5, Pq5_0, Pq5_1, Pq5_2⟩
    have N5 := Fr.app N3 Nq5
    replace Pq3_0 := (Pq3_0.keep Kq5)
    replace Pq3_1 := (Pq3_1.keep Kq5 (ninS (ne_b2_b4) nin0))
    replace Pq3_2 := (Pq3_2.keep Kq5 (ninS (ne_b2_b4) nin0))
    replace A4 := (A4.keep Kq5)
    replace K_b4 := own_K_keep K_b4 Kq5
    have ZKq5 : n0 ≤ T5.heap.size := Nat.le_trans ZE4 Kq5.1
    have KKKq5 := KKE4.trans Kq5 ((allS (Or.inr sz_b4) all0))
    refine own_go (T' := T5) (f' := (mkF m 138 #[.val (.long q0), .second, .val (.long q1), .second, .val (.long q2), .second, .val (.long q3), .second, .val (.int p4), .val (.long q0), .second, .val (.long q1), .second, .val (.long tb), .second, .val (.long ob), .second, .val (.int ms), .val (.int ns), .val (.ref b2), .val (.ref b4), .unset, .unset] [(.long q0), (.long tb)])) (fun t kt => ?_) ?_
    · show Steps p.tables e below (T5.setTop (mkF m 132 #[.val (.long q0), .second, .val (.long q1), .second, .val (.long q2), .second, .val (.long q3), .second, .val (.int p4), .val (.long q0), .second, .val (.long q1), .second, .val (.long tb), .second, .val (.long ob), .second, .val (.int ms), .val (.int ns), .val (.ref b2), .unset, .unset, .unset] [(.ref b4)])) t
      refine XS.astore X5.here hx rfl (hb hby at_132) rfl rfl (l' := #[.val (.long q0), .second, .val (.long q1), .second, .val (.long q2), .second, .val (.long q3), .second, .val (.int p4), .val (.long q0), .second, .val (.long q1), .second, .val (.long tb), .second, .val (.long ob), .second, .val (.int ms), .val (.int ns), .val (.ref b2), .val (.ref b4), .unset, .unset]) rfl ?_
      show Steps p.tables e below (T5.setTop (mkF m 134 #[.val (.long q0), .second, .val (.long q1), .second, .val (.long q2), .second, .val (.long q3), .second, .val (.int p4), .val (.long q0), .second, .val (.long q1), .second, .val (.long tb), .second, .val (.long ob), .second, .val (.int ms), .val (.int ns), .val (.ref b2), .val (.ref b4), .unset, .unset] [])) t
      refine XS.lload X5.here hx rfl (hb hby at_134) rfl ?_
      show Steps p.tables e below (T5.setTop (mkF m 136 #[.val (.long q0), .second, .val (.long q1), .second, .val (.long q2), .second, .val (.long q3), .second, .val (.int p4), .val (.long q0), .second, .val (.long q1), .second, .val (.long tb), .second, .val (.long ob), .second, .val (.int ms), .val (.int ns), .val (.ref b2), .val (.ref b4), .unset, .unset] [(.long tb)])) t
      refine XS.lload X5.here hx rfl (hb hby at_136) rfl ?_
      show Steps p.tables e below (T5.setTop (mkF m 138 #[.val (.long q0), .second, .val (.long q1), .second, .val (.long q2), .second, .val (.long q3), .second, .val (.int p4), .val (.long q0), .second, .val (.long q1), .second, .val (.long tb), .second, .val (.long ob), .second, .val (.int ms), .val (.int ns), .val (.ref b2), .val (.ref b4), .unset, .unset] [(.long q0), (.long tb)])) t
      exact kt
    refine own_callSp X5 hx hZ hown rfl (hw _ (List.mem_of_getElem? (i := 18) rfl)) (hw _ (List.mem_of_getElem? (i := 19) rfl)) (hw _ (List.mem_of_getElem? (i := 20) rfl)) (hw _ (List.mem_of_getElem? (i := 21) rfl)) (by decide) (rm4 l Z aw hw tb q0 T5.heap n0 ZKq5) (g := (mkF m 138 #[.val (.long q0), .second, .val (.long q1), .second, .val (.long q2), .second, .val (.long q3), .second, .val (.int p4), .val (.long q0), .second, .val (.long q1), .second, .val (.long tb), .second, .val (.long ob), .second, .val (.int ms), .val (.int ns), .val (.ref b2), .val (.ref b4), .unset, .unset] [(.long q0), (.long tb)])) rfl (by rw [hml]; rfl) (argsL := [(.long tb), (.long q0)]) (rest := []) (lenOf pd_3 rfl) rfl rfl (W := 0) (by show 2 * 0 + _ ≤ _; exact Nat.le_of_eq rfl) (hb hby at_138) (by decide) (by decide) (by decide) (by decide) ?_
    intro T6 X6 e6
    by_cases hc141_7 : (q0 < tb)
    · refine own_go (T' := T6) (f' := (mkF m 148 #[.val (.long q0), .second, .val (.long q1), .second, .val (.long q2), .second, .val (.long q3), .second, .val (.int p4), .val (.long q0), .second, .val (.long q1), .second, .val (.long tb), .second, .val (.long ob), .second, .val (.int ms), .val (.int ns), .val (.ref b2), .val (.ref b4), .unset, .unset] [(.long q1), (.long ob)])) (fun t kt => ?_) ?_
      · show Steps p.tables e below (T6.setTop (mkF m 141 #[.val (.long q0), .second, .val (.long q1), .second, .val (.long q2), .second, .val (.long q3), .second, .val (.int p4), .val (.long q0), .second, .val (.long q1), .second, .val (.long tb), .second, .val (.long ob), .second, .val (.int ms), .val (.int ns), .val (.ref b2), .val (.ref b4), .unset, .unset] [(.int (own_z (q0 < tb)))])) t
        refine XS.ifNo X6.here hx rfl (hb hby at_141) rfl (own_zN_eq hc141_7) ?_
        show Steps p.tables e below (T6.setTop (mkF m 144 #[.val (.long q0), .second, .val (.long q1), .second, .val (.long q2), .second, .val (.long q3), .second, .val (.int p4), .val (.long q0), .second, .val (.long q1), .second, .val (.long tb), .second, .val (.long ob), .second, .val (.int ms), .val (.int ns), .val (.ref b2), .val (.ref b4), .unset, .unset] [])) t
        refine XS.lload X6.here hx rfl (hb hby at_144) rfl ?_
        show Steps p.tables e below (T6.setTop (mkF m 146 #[.val (.long q0), .second, .val (.long q1), .second, .val (.long q2), .second, .val (.long q3), .second, .val (.int p4), .val (.long q0), .second, .val (.long q1), .second, .val (.long tb), .second, .val (.long ob), .second, .val (.int ms), .val (.int ns), .val (.ref b2), .val (.ref b4), .unset, .unset] [(.long ob)])) t
        refine XS.lload X6.here hx rfl (hb hby at_146) rfl ?_
        show Steps p.tables e below (T6.setTop (mkF m 148 #[.val (.long q0), .second, .val (.long q1), .second, .val (.long q2), .second, .val (.long q3), .second, .val (.int p4), .val (.long q0), .second, .val (.long q1), .second, .val (.long tb), .second, .val (.long ob), .second, .val (.int ms), .val (.int ns), .val (.ref b2), .val (.ref b4), .unset, .unset] [(.long q1), (.long ob)])) t
        exact kt
      refine own_callSp X6 hx hZ hown e6 (hw _ (List.mem_of_getElem? (i := 18) rfl)) (hw _ (List.mem_of_getElem? (i := 19) rfl)) (hw _ (List.mem_of_getElem? (i := 20) rfl)) (hw _ (List.mem_of_getElem? (i := 21) rfl)) (by decide) (rm4 l Z aw hw ob q1 T5.heap n0 ZKq5) (g := (mkF m 148 #[.val (.long q0), .second, .val (.long q1), .second, .val (.long q2), .second, .val (.long q3), .second, .val (.int p4), .val (.long q0), .second, .val (.long q1), .second, .val (.long tb), .second, .val (.long ob), .second, .val (.int ms), .val (.int ns), .val (.ref b2), .val (.ref b4), .unset, .unset] [(.long q1), (.long ob)])) rfl (by rw [hml]; rfl) (argsL := [(.long ob), (.long q1)]) (rest := []) (lenOf pd_3 rfl) rfl rfl (W := 0) (by show 2 * 0 + _ ≤ _; exact Nat.le_of_eq rfl) (hb hby at_148) (by decide) (by decide) (by decide) (by decide) ?_
      intro T8 X8 e8
      by_cases hc151_9 : (q1 < ob)
      · refine own_go (T' := T8) (f' := (mkF m 165 #[.val (.long q0), .second, .val (.long q1), .second, .val (.long q2), .second, .val (.long q3), .second, .val (.int p4), .val (.long q0), .second, .val (.long q1), .second, .val (.long tb), .second, .val (.long ob), .second, .val (.int ms), .val (.int ns), .val (.ref b2), .val (.ref b4), .val (.int (1 : Int32)), .unset] [(.long tb), (.long q0)])) (fun t kt => ?_) ?_
        · show Steps p.tables e below (T8.setTop (mkF m 151 #[.val (.long q0), .second, .val (.long q1), .second, .val (.long q2), .second, .val (.long q3), .second, .val (.int p4), .val (.long q0), .second, .val (.long q1), .second, .val (.long tb), .second, .val (.long ob), .second, .val (.int ms), .val (.int ns), .val (.ref b2), .val (.ref b4), .unset, .unset] [(.int (own_z (q1 < ob)))])) t
          refine XS.ifNo X8.here hx rfl (hb hby at_151) rfl (own_zN_eq hc151_9) ?_
          show Steps p.tables e below (T8.setTop (mkF m 154 #[.val (.long q0), .second, .val (.long q1), .second, .val (.long q2), .second, .val (.long q3), .second, .val (.int p4), .val (.long q0), .second, .val (.long q1), .second, .val (.long tb), .second, .val (.long ob), .second, .val (.int ms), .val (.int ns), .val (.ref b2), .val (.ref b4), .unset, .unset] [])) t
          refine XS.iconst X8.here hx rfl (hb hby at_154) ?_
          show Steps p.tables e below (T8.setTop (mkF m 155 #[.val (.long q0), .second, .val (.long q1), .second, .val (.long q2), .second, .val (.long q3), .second, .val (.int p4), .val (.long q0), .second, .val (.long q1), .second, .val (.long tb), .second, .val (.long ob), .second, .val (.int ms), .val (.int ns), .val (.ref b2), .val (.ref b4), .unset, .unset] [(.int (1 : Int32))])) t
          refine XS.goto X8.here hx rfl (pc0 := 155) (pc' := 159) rfl (hb hby at_155) (by decide) (by decide) ?_
          show Steps p.tables e below (T8.setTop (mkF m 159 #[.val (.long q0), .second, .val (.long q1), .second, .val (.long q2), .second, .val (.long q3), .second, .val (.int p4), .val (.long q0), .second, .val (.long q1), .second, .val (.long tb), .second, .val (.long ob), .second, .val (.int ms), .val (.int ns), .val (.ref b2), .val (.ref b4), .unset, .unset] [(.int (1 : Int32))])) t
          refine XS.istore X8.here hx rfl (hb hby at_159) rfl (l' := #[.val (.long q0), .second, .val (.long q1), .second, .val (.long q2), .second, .val (.long q3), .second, .val (.int p4), .val (.long q0), .second, .val (.long q1), .second, .val (.long tb), .second, .val (.long ob), .second, .val (.int ms), .val (.int ns), .val (.ref b2), .val (.ref b4), .val (.int (1 : Int32)), .unset]) rfl ?_
          show Steps p.tables e below (T8.setTop (mkF m 161 #[.val (.long q0), .second, .val (.long q1), .second, .val (.long q2), .second, .val (.long q3), .second, .val (.int p4), .val (.long q0), .second, .val (.long q1), .second, .val (.long tb), .second, .val (.long ob), .second, .val (.int ms), .val (.int ns), .val (.ref b2), .val (.ref b4), .val (.int (1 : Int32)), .unset] [])) t
          refine XS.lload X8.here hx rfl (hb hby at_161) rfl ?_
          show Steps p.tables e below (T8.setTop (mkF m 163 #[.val (.long q0), .second, .val (.long q1), .second, .val (.long q2), .second, .val (.long q3), .second, .val (.int p4), .val (.long q0), .second, .val (.long q1), .second, .val (.long tb), .second, .val (.long ob), .second, .val (.int ms), .val (.int ns), .val (.ref b2), .val (.ref b4), .val (.int (1 : Int32)), .unset] [(.long q0)])) t
          refine XS.lload X8.here hx rfl (hb hby at_163) rfl ?_
          show Steps p.tables e below (T8.setTop (mkF m 165 #[.val (.long q0), .second, .val (.long q1), .second, .val (.long q2), .second, .val (.long q3), .second, .val (.int p4), .val (.long q0), .second, .val (.long q1), .second, .val (.long tb), .second, .val (.long ob), .second, .val (.int ms), .val (.int ns), .val (.ref b2), .val (.ref b4), .val (.int (1 : Int32)), .unset] [(.long tb), (.long q0)])) t
          exact kt
        refine own_callSp X8 hx hZ hown e8 (hw _ (List.mem_of_getElem? (i := 18) rfl)) (hw _ (List.mem_of_getElem? (i := 19) rfl)) (hw _ (List.mem_of_getElem? (i := 20) rfl)) (hw _ (List.mem_of_getElem? (i := 21) rfl)) (by decide) (rm4 l Z aw hw q0 tb T5.heap n0 ZKq5) (g := (mkF m 165 #[.val (.long q0), .second, .val (.long q1), .second, .val (.long q2), .second, .val (.long q3), .second, .val (.int p4), .val (.long q0), .second, .val (.long q1), .second, .val (.long tb), .second, .val (.long ob), .second, .val (.int ms), .val (.int ns), .val (.ref b2), .val (.ref b4), .val (.int (1 : Int32)), .unset] [(.long tb), (.long q0)])) rfl (by rw [hml]; rfl) (argsL := [(.long q0), (.long tb)]) (rest := []) (lenOf pd_3 rfl) rfl rfl (W := 0) (by show 2 * 0 + _ ≤ _; exact Nat.le_of_eq rfl) (hb hby at_165) (by decide) (by decide) (by decide) (by decide) ?_
        intro T10 X10 e10
        by_cases hc168_11 : (tb < q0)
        · refine own_go (T' := T10) (f' := (mkF m 175 #[.val (.long q0), .second, .val (.long q1), .second, .val (.long q2), .second, .val (.long q3), .second, .val (.int p4), .val (.long q0), .second, .val (.long q1), .second, .val (.long tb), .second, .val (.long ob), .second, .val (.int ms), .val (.int ns), .val (.ref b2), .val (.ref b4), .val (.int (1 : Int32)), .unset] [(.long ob), (.long q1)])) (fun t kt => ?_) ?_
          · show Steps p.tables e below (T10.setTop (mkF m 168 #[.val (.long q0), .second, .val (.long q1), .second, .val (.long q2), .second, .val (.long q3), .second, .val (.int p4), .val (.long q0), .second, .val (.long q1), .second, .val (.long tb), .second, .val (.long ob), .second, .val (.int ms), .val (.int ns), .val (.ref b2), .val (.ref b4), .val (.int (1 : Int32)), .unset] [(.int (own_z (tb < q0)))])) t
            refine XS.ifNo X10.here hx rfl (hb hby at_168) rfl (own_zN_eq hc168_11) ?_
            show Steps p.tables e below (T10.setTop (mkF m 171 #[.val (.long q0), .second, .val (.long q1), .second, .val (.long q2), .second, .val (.long q3), .second, .val (.int p4), .val (.long q0), .second, .val (.long q1), .second, .val (.long tb), .second, .val (.long ob), .second, .val (.int ms), .val (.int ns), .val (.ref b2), .val (.ref b4), .val (.int (1 : Int32)), .unset] [])) t
            refine XS.lload X10.here hx rfl (hb hby at_171) rfl ?_
            show Steps p.tables e below (T10.setTop (mkF m 173 #[.val (.long q0), .second, .val (.long q1), .second, .val (.long q2), .second, .val (.long q3), .second, .val (.int p4), .val (.long q0), .second, .val (.long q1), .second, .val (.long tb), .second, .val (.long ob), .second, .val (.int ms), .val (.int ns), .val (.ref b2), .val (.ref b4), .val (.int (1 : Int32)), .unset] [(.long q1)])) t
            refine XS.lload X10.here hx rfl (hb hby at_173) rfl ?_
            show Steps p.tables e below (T10.setTop (mkF m 175 #[.val (.long q0), .second, .val (.long q1), .second, .val (.long q2), .second, .val (.long q3), .second, .val (.int p4), .val (.long q0), .second, .val (.long q1), .second, .val (.long tb), .second, .val (.long ob), .second, .val (.int ms), .val (.int ns), .val (.ref b2), .val (.ref b4), .val (.int (1 : Int32)), .unset] [(.long ob), (.long q1)])) t
            exact kt
          refine own_callSp X10 hx hZ hown e10 (hw _ (List.mem_of_getElem? (i := 18) rfl)) (hw _ (List.mem_of_getElem? (i := 19) rfl)) (hw _ (List.mem_of_getElem? (i := 20) rfl)) (hw _ (List.mem_of_getElem? (i := 21) rfl)) (by decide) (rm4 l Z aw hw q1 ob T5.heap n0 ZKq5) (g := (mkF m 175 #[.val (.long q0), .second, .val (.long q1), .second, .val (.long q2), .second, .val (.long q3), .second, .val (.int p4), .val (.long q0), .second, .val (.long q1), .second, .val (.long tb), .second, .val (.long ob), .second, .val (.int ms), .val (.int ns), .val (.ref b2), .val (.ref b4), .val (.int (1 : Int32)), .unset] [(.long ob), (.long q1)])) rfl (by rw [hml]; rfl) (argsL := [(.long q1), (.long ob)]) (rest := []) (lenOf pd_3 rfl) rfl rfl (W := 0) (by show 2 * 0 + _ ≤ _; exact Nat.le_of_eq rfl) (hb hby at_175) (by decide) (by decide) (by decide) (by decide) ?_
          intro T12 X12 e12
          by_cases hc178_13 : (ob < q1)
          · refine own_go (T' := T12) (f' := (mkF m 192 #[.val (.long q0), .second, .val (.long q1), .second, .val (.long q2), .second, .val (.long q3), .second, .val (.int p4), .val (.long q0), .second, .val (.long q1), .second, .val (.long tb), .second, .val (.long ob), .second, .val (.int ms), .val (.int ns), .val (.ref b2), .val (.ref b4), .val (.int (1 : Int32)), .val (.int (1 : Int32))] [(.ref b2), (.ref b4)])) (fun t kt => ?_) ?_
            · show Steps p.tables e below (T12.setTop (mkF m 178 #[.val (.long q0), .second, .val (.long q1), .second, .val (.long q2), .second, .val (.long q3), .second, .val (.int p4), .val (.long q0), .second, .val (.long q1), .second, .val (.long tb), .second, .val (.long ob), .second, .val (.int ms), .val (.int ns), .val (.ref b2), .val (.ref b4), .val (.int (1 : Int32)), .unset] [(.int (own_z (ob < q1)))])) t
              refine XS.ifNo X12.here hx rfl (hb hby at_178) rfl (own_zN_eq hc178_13) ?_
              show Steps p.tables e below (T12.setTop (mkF m 181 #[.val (.long q0), .second, .val (.long q1), .second, .val (.long q2), .second, .val (.long q3), .second, .val (.int p4), .val (.long q0), .second, .val (.long q1), .second, .val (.long tb), .second, .val (.long ob), .second, .val (.int ms), .val (.int ns), .val (.ref b2), .val (.ref b4), .val (.int (1 : Int32)), .unset] [])) t
              refine XS.iconst X12.here hx rfl (hb hby at_181) ?_
              show Steps p.tables e below (T12.setTop (mkF m 182 #[.val (.long q0), .second, .val (.long q1), .second, .val (.long q2), .second, .val (.long q3), .second, .val (.int p4), .val (.long q0), .second, .val (.long q1), .second, .val (.long tb), .second, .val (.long ob), .second, .val (.int ms), .val (.int ns), .val (.ref b2), .val (.ref b4), .val (.int (1 : Int32)), .unset] [(.int (1 : Int32))])) t
              refine XS.goto X12.here hx rfl (pc0 := 182) (pc' := 186) rfl (hb hby at_182) (by decide) (by decide) ?_
              show Steps p.tables e below (T12.setTop (mkF m 186 #[.val (.long q0), .second, .val (.long q1), .second, .val (.long q2), .second, .val (.long q3), .second, .val (.int p4), .val (.long q0), .second, .val (.long q1), .second, .val (.long tb), .second, .val (.long ob), .second, .val (.int ms), .val (.int ns), .val (.ref b2), .val (.ref b4), .val (.int (1 : Int32)), .unset] [(.int (1 : Int32))])) t
              refine XS.istore X12.here hx rfl (hb hby at_186) rfl (l' := #[.val (.long q0), .second, .val (.long q1), .second, .val (.long q2), .second, .val (.long q3), .second, .val (.int p4), .val (.long q0), .second, .val (.long q1), .second, .val (.long tb), .second, .val (.long ob), .second, .val (.int ms), .val (.int ns), .val (.ref b2), .val (.ref b4), .val (.int (1 : Int32)), .val (.int (1 : Int32))]) rfl ?_
              show Steps p.tables e below (T12.setTop (mkF m 188 #[.val (.long q0), .second, .val (.long q1), .second, .val (.long q2), .second, .val (.long q3), .second, .val (.int p4), .val (.long q0), .second, .val (.long q1), .second, .val (.long tb), .second, .val (.long ob), .second, .val (.int ms), .val (.int ns), .val (.ref b2), .val (.ref b4), .val (.int (1 : Int32)), .val (.int (1 : Int32))] [])) t
              refine XS.aload X12.here hx rfl (hb hby at_188) rfl rfl ?_
              show Steps p.tables e below (T12.setTop (mkF m 190 #[.val (.long q0), .second, .val (.long q1), .second, .val (.long q2), .second, .val (.long q3), .second, .val (.int p4), .val (.long q0), .second, .val (.long q1), .second, .val (.long tb), .second, .val (.long ob), .second, .val (.int ms), .val (.int ns), .val (.ref b2), .val (.ref b4), .val (.int (1 : Int32)), .val (.int (1 : Int32))] [(.ref b4)])) t
              refine XS.aload X12.here hx rfl (hb hby at_190) rfl rfl ?_
              show Steps p.tables e below (T12.setTop (mkF m 192 #[.val (.long q0), .second, .val (.long q1), .second, .val (.long q2), .second, .val (.long q3), .second, .val (.int p4), .val (.long q0), .second, .val (.long q1), .second, .val (.long tb), .second, .val (.long ob), .second, .val (.int ms), .val (.int ns), .val (.ref b2), .val (.ref b4), .val (.int (1 : Int32)), .val (.int (1 : Int32))] [(.ref b2), (.ref b4)])) t
              exact kt
            refine own_callVp X12 hx hZ hown e12 (hw _ (List.mem_of_getElem? (i := 26) rfl)) (hw _ (List.mem_of_getElem? (i := 27) rfl)) (notFace_of_selects (args := #[]) (mvT hZ (hw _ (List.mem_of_getElem? (i := 29) rfl)))) (hw _ (List.mem_of_getElem? (i := 29) rfl)) (hw _ (List.mem_of_getElem? (i := 28) rfl)) (hw _ (List.mem_of_getElem? (i := 2) rfl)) (hw _ (List.mem_of_getElem? (i := 30) rfl)) (by decide) (rm6 l Z aw hw b4 b2 tb ob q0 q1 T5.heap n0 ZKq5 Pq5_1 Pq5_2 Pq3_1 Pq3_2) Pq5_0 (g := (mkF m 192 #[.val (.long q0), .second, .val (.long q1), .second, .val (.long q2), .second, .val (.long q3), .second, .val (.int p4), .val (.long q0), .second, .val (.long q1), .second, .val (.long tb), .second, .val (.long ob), .second, .val (.int ms), .val (.int ns), .val (.ref b2), .val (.ref b4), .val (.int (1 : Int32)), .val (.int (1 : Int32))] [(.ref b2), (.ref b4)])) rfl (by rw [hml]; rfl) (argsL := [(.ref b2)]) (rest := []) (lenOf pd_4 rfl) rfl rfl (W := 0) (by show 2 * 0 + _ ≤ _; exact Nat.le_of_eq rfl) (hb hby at_192) (by decide) (by decide) (by decide) (by decide) ?_
            intro T14 X14 e14
            refine own_go (T' := T14) (f' := (mkF m 204 #[.val (.long q0), .second, .val (.long q1), .second, .val (.long q2), .second, .val (.long q3), .second, .val (.int p4), .val (.long q0), .second, .val (.long q1), .second, .val (.long tb), .second, .val (.long ob), .second, .val (.int ms), .val (.int ns), .val (.ref b2), .val (.ref b4), .val (.int (1 : Int32)), .val (.int (1 : Int32))] [(.ref b4), (.ref b2)])) (fun t kt => ?_) ?_
            · show Steps p.tables e below (T14.setTop (mkF m 195 #[.val (.long q0), .second, .val (.long q1), .second, .val (.long q2), .second, .val (.long q3), .second, .val (.int p4), .val (.long q0), .second, .val (.long q1), .second, .val (.long tb), .second, .val (.long ob), .second, .val (.int ms), .val (.int ns), .val (.ref b2), .val (.ref b4), .val (.int (1 : Int32)), .val (.int (1 : Int32))] [(.int (own_z (q0 < tb ∧ q1 < ob)))])) t
              refine XS.iload X14.here hx rfl (hb hby at_195) rfl ?_
              show Steps p.tables e below (T14.setTop (mkF m 197 #[.val (.long q0), .second, .val (.long q1), .second, .val (.long q2), .second, .val (.long q3), .second, .val (.int p4), .val (.long q0), .second, .val (.long q1), .second, .val (.long tb), .second, .val (.long ob), .second, .val (.int ms), .val (.int ns), .val (.ref b2), .val (.ref b4), .val (.int (1 : Int32)), .val (.int (1 : Int32))] [(.int (1 : Int32)), (.int (own_z (q0 < tb ∧ q1 < ob)))])) t
              refine XS.icmpNo X14.here hx rfl (hb hby at_197) rfl (teq (show (own_z (q0 < tb ∧ q1 < ob)) = (1 : Int32) from own_z_t ⟨hc141_7, hc151_9⟩)).2 ?_
              show Steps p.tables e below (T14.setTop (mkF m 200 #[.val (.long q0), .second, .val (.long q1), .second, .val (.long q2), .second, .val (.long q3), .second, .val (.int p4), .val (.long q0), .second, .val (.long q1), .second, .val (.long tb), .second, .val (.long ob), .second, .val (.int ms), .val (.int ns), .val (.ref b2), .val (.ref b4), .val (.int (1 : Int32)), .val (.int (1 : Int32))] [])) t
              refine XS.aload X14.here hx rfl (hb hby at_200) rfl rfl ?_
              show Steps p.tables e below (T14.setTop (mkF m 202 #[.val (.long q0), .second, .val (.long q1), .second, .val (.long q2), .second, .val (.long q3), .second, .val (.int p4), .val (.long q0), .second, .val (.long q1), .second, .val (.long tb), .second, .val (.long ob), .second, .val (.int ms), .val (.int ns), .val (.ref b2), .val (.ref b4), .val (.int (1 : Int32)), .val (.int (1 : Int32))] [(.ref b2)])) t
              refine XS.aload X14.here hx rfl (hb hby at_202) rfl rfl ?_
              show Steps p.tables e below (T14.setTop (mkF m 204 #[.val (.long q0), .second, .val (.long q1), .second, .val (.long q2), .second, .val (.long q3), .second, .val (.int p4), .val (.long q0), .second, .val (.long q1), .second, .val (.long tb), .second, .val (.long ob), .second, .val (.int ms), .val (.int ns), .val (.ref b2), .val (.ref b4), .val (.int (1 : Int32)), .val (.int (1 : Int32))] [(.ref b4), (.ref b2)])) t
              exact kt
            refine own_callVp X14 hx hZ hown e14 (hw _ (List.mem_of_getElem? (i := 26) rfl)) (hw _ (List.mem_of_getElem? (i := 27) rfl)) (notFace_of_selects (args := #[]) (mvT hZ (hw _ (List.mem_of_getElem? (i := 29) rfl)))) (hw _ (List.mem_of_getElem? (i := 29) rfl)) (hw _ (List.mem_of_getElem? (i := 28) rfl)) (hw _ (List.mem_of_getElem? (i := 2) rfl)) (hw _ (List.mem_of_getElem? (i := 30) rfl)) (by decide) (rm6 l Z aw hw b2 b4 q0 q1 tb ob T5.heap n0 ZKq5 Pq3_1 Pq3_2 Pq5_1 Pq5_2) Pq3_0 (g := (mkF m 204 #[.val (.long q0), .second, .val (.long q1), .second, .val (.long q2), .second, .val (.long q3), .second, .val (.int p4), .val (.long q0), .second, .val (.long q1), .second, .val (.long tb), .second, .val (.long ob), .second, .val (.int ms), .val (.int ns), .val (.ref b2), .val (.ref b4), .val (.int (1 : Int32)), .val (.int (1 : Int32))] [(.ref b4), (.ref b2)])) rfl (by rw [hml]; rfl) (argsL := [(.ref b4)]) (rest := []) (lenOf pd_4 rfl) rfl rfl (W := 0) (by show 2 * 0 + _ ≤ _; exact Nat.le_of_eq rfl) (hb hby at_204) (by decide) (by decide) (by decide) (by decide) ?_
            intro T15 X15 e15
            refine own_go (T' := T15) (f' := (mkF m 216 #[.val (.long q0), .second, .val (.long q1), .second, .val (.long q2), .second, .val (.long q3), .second, .val (.int p4), .val (.long q0), .second, .val (.long q1), .second, .val (.long tb), .second, .val (.long ob), .second, .val (.int ms), .val (.int ns), .val (.ref b2), .val (.ref b4), .val (.int (1 : Int32)), .val (.int (1 : Int32))] [(.ref b2), (.ref b2)])) (fun t kt => ?_) ?_
            · show Steps p.tables e below (T15.setTop (mkF m 207 #[.val (.long q0), .second, .val (.long q1), .second, .val (.long q2), .second, .val (.long q3), .second, .val (.int p4), .val (.long q0), .second, .val (.long q1), .second, .val (.long tb), .second, .val (.long ob), .second, .val (.int ms), .val (.int ns), .val (.ref b2), .val (.ref b4), .val (.int (1 : Int32)), .val (.int (1 : Int32))] [(.int (own_z (tb < q0 ∧ ob < q1)))])) t
              refine XS.iload X15.here hx rfl (hb hby at_207) rfl ?_
              show Steps p.tables e below (T15.setTop (mkF m 209 #[.val (.long q0), .second, .val (.long q1), .second, .val (.long q2), .second, .val (.long q3), .second, .val (.int p4), .val (.long q0), .second, .val (.long q1), .second, .val (.long tb), .second, .val (.long ob), .second, .val (.int ms), .val (.int ns), .val (.ref b2), .val (.ref b4), .val (.int (1 : Int32)), .val (.int (1 : Int32))] [(.int (1 : Int32)), (.int (own_z (tb < q0 ∧ ob < q1)))])) t
              refine XS.icmpNo X15.here hx rfl (hb hby at_209) rfl (teq (show (own_z (tb < q0 ∧ ob < q1)) = (1 : Int32) from own_z_t ⟨hc168_11, hc178_13⟩)).2 ?_
              show Steps p.tables e below (T15.setTop (mkF m 212 #[.val (.long q0), .second, .val (.long q1), .second, .val (.long q2), .second, .val (.long q3), .second, .val (.int p4), .val (.long q0), .second, .val (.long q1), .second, .val (.long tb), .second, .val (.long ob), .second, .val (.int ms), .val (.int ns), .val (.ref b2), .val (.ref b4), .val (.int (1 : Int32)), .val (.int (1 : Int32))] [])) t
              refine XS.aload X15.here hx rfl (hb hby at_212) rfl rfl ?_
              show Steps p.tables e below (T15.setTop (mkF m 214 #[.val (.long q0), .second, .val (.long q1), .second, .val (.long q2), .second, .val (.long q3), .second, .val (.int p4), .val (.long q0), .second, .val (.long q1), .second, .val (.long tb), .second, .val (.long ob), .second, .val (.int ms), .val (.int ns), .val (.ref b2), .val (.ref b4), .val (.int (1 : Int32)), .val (.int (1 : Int32))] [(.ref b2)])) t
              refine XS.aload X15.here hx rfl (hb hby at_214) rfl rfl ?_
              show Steps p.tables e below (T15.setTop (mkF m 216 #[.val (.long q0), .second, .val (.long q1), .second, .val (.long q2), .second, .val (.long q3), .second, .val (.int p4), .val (.long q0), .second, .val (.long q1), .second, .val (.long tb), .second, .val (.long ob), .second, .val (.int ms), .val (.int ns), .val (.ref b2), .val (.ref b4), .val (.int (1 : Int32)), .val (.int (1 : Int32))] [(.ref b2), (.ref b2)])) t
              exact kt
            refine own_callVp X15 hx hZ hown e15 (hw _ (List.mem_of_getElem? (i := 26) rfl)) (hw _ (List.mem_of_getElem? (i := 27) rfl)) (notFace_of_selects (args := #[]) (mvT hZ (hw _ (List.mem_of_getElem? (i := 29) rfl)))) (hw _ (List.mem_of_getElem? (i := 29) rfl)) (hw _ (List.mem_of_getElem? (i := 28) rfl)) (hw _ (List.mem_of_getElem? (i := 2) rfl)) (hw _ (List.mem_of_getElem? (i := 30) rfl)) (by decide) (rm6 l Z aw hw b2 b2 q0 q1 q0 q1 T5.heap n0 ZKq5 Pq3_1 Pq3_2 Pq3_1 Pq3_2) Pq3_0 (g := (mkF m 216 #[.val (.long q0), .second, .val (.long q1), .second, .val (.long q2), .second, .val (.long q3), .second, .val (.int p4), .val (.long q0), .second, .val (.long q1), .second, .val (.long tb), .second, .val (.long ob), .second, .val (.int ms), .val (.int ns), .val (.ref b2), .val (.ref b4), .val (.int (1 : Int32)), .val (.int (1 : Int32))] [(.ref b2), (.ref b2)])) rfl (by rw [hml]; rfl) (argsL := [(.ref b2)]) (rest := []) (lenOf pd_4 rfl) rfl rfl (W := 0) (by show 2 * 0 + _ ≤ _; exact Nat.le_of_eq rfl) (hb hby at_216) (by decide) (by decide) (by decide) (by decide) ?_
            intro T16 X16 e16
            refine own_go (T' := T16) (f' := (mkF m 227 #[.val (.long q0), .second, .val (.long q1), .second, .val (.long q2), .second, .val (.long q3), .second, .val (.int p4), .val (.long q0), .second, .val (.long q1), .second, .val (.long tb), .second, .val (.long ob), .second, .val (.int ms), .val (.int ns), .val (.ref b2), .val (.ref b4), .val (.int (1 : Int32)), .val (.int (1 : Int32))] [(.int (1 : Int32))])) (fun t kt => ?_) ?_
            · show Steps p.tables e below (T16.setTop (mkF m 219 #[.val (.long q0), .second, .val (.long q1), .second, .val (.long q2), .second, .val (.long q3), .second, .val (.int p4), .val (.long q0), .second, .val (.long q1), .second, .val (.long tb), .second, .val (.long ob), .second, .val (.int ms), .val (.int ns), .val (.ref b2), .val (.ref b4), .val (.int (1 : Int32)), .val (.int (1 : Int32))] [(.int (own_z (q0 < q0 ∧ q1 < q1)))])) t
              refine XS.ifNo X16.here hx rfl (hb hby at_219) rfl (own_zN_ne (show ¬ ((q0 < q0 ∧ q1 < q1)) from fun h => Int64.lt_irrefl h.1)) ?_
              show Steps p.tables e below (T16.setTop (mkF m 222 #[.val (.long q0), .second, .val (.long q1), .second, .val (.long q2), .second, .val (.long q3), .second, .val (.int p4), .val (.long q0), .second, .val (.long q1), .second, .val (.long tb), .second, .val (.long ob), .second, .val (.int ms), .val (.int ns), .val (.ref b2), .val (.ref b4), .val (.int (1 : Int32)), .val (.int (1 : Int32))] [])) t
              refine XS.iconst X16.here hx rfl (hb hby at_222) ?_
              show Steps p.tables e below (T16.setTop (mkF m 223 #[.val (.long q0), .second, .val (.long q1), .second, .val (.long q2), .second, .val (.long q3), .second, .val (.int p4), .val (.long q0), .second, .val (.long q1), .second, .val (.long tb), .second, .val (.long ob), .second, .val (.int ms), .val (.int ns), .val (.ref b2), .val (.ref b4), .val (.int (1 : Int32)), .val (.int (1 : Int32))] [(.int (1 : Int32))])) t
              refine XS.goto X16.here hx rfl (pc0 := 223) (pc' := 227) rfl (hb hby at_223) (by decide) (by decide) ?_
              show Steps p.tables e below (T16.setTop (mkF m 227 #[.val (.long q0), .second, .val (.long q1), .second, .val (.long q2), .second, .val (.long q3), .second, .val (.int p4), .val (.long q0), .second, .val (.long q1), .second, .val (.long tb), .second, .val (.long ob), .second, .val (.int ms), .val (.int ns), .val (.ref b2), .val (.ref b4), .val (.int (1 : Int32)), .val (.int (1 : Int32))] [(.int (1 : Int32))])) t
              exact kt
            exact own_retN X16 hP hx hlk e16 (t := .boolean) hret (by simp) (hb hby at_227) (by decide) (by decide) (z' := (1 : Int32)) rfl ⟨rfl, N5⟩
          · refine own_go (T' := T12) (f' := (mkF m 192 #[.val (.long q0), .second, .val (.long q1), .second, .val (.long q2), .second, .val (.long q3), .second, .val (.int p4), .val (.long q0), .second, .val (.long q1), .second, .val (.long tb), .second, .val (.long ob), .second, .val (.int ms), .val (.int ns), .val (.ref b2), .val (.ref b4), .val (.int (1 : Int32)), .val (.int (0 : Int32))] [(.ref b2), (.ref b4)])) (fun t kt => ?_) ?_
            · show Steps p.tables e below (T12.setTop (mkF m 178 #[.val (.long q0), .second, .val (.long q1), .second, .val (.long q2), .second, .val (.long q3), .second, .val (.int p4), .val (.long q0), .second, .val (.long q1), .second, .val (.long tb), .second, .val (.long ob), .second, .val (.int ms), .val (.int ns), .val (.ref b2), .val (.ref b4), .val (.int (1 : Int32)), .unset] [(.int (own_z (ob < q1)))])) t
              refine XS.ifYes X12.here hx rfl (pc0 := 178) (pc' := 185) rfl (hb hby at_178) rfl (own_zY_eq hc178_13) (by decide) (by decide) ?_
              show Steps p.tables e below (T12.setTop (mkF m 185 #[.val (.long q0), .second, .val (.long q1), .second, .val (.long q2), .second, .val (.long q3), .second, .val (.int p4), .val (.long q0), .second, .val (.long q1), .second, .val (.long tb), .second, .val (.long ob), .second, .val (.int ms), .val (.int ns), .val (.ref b2), .val (.ref b4), .val (.int (1 : Int32)), .unset] [])) t
              refine XS.iconst X12.here hx rfl (hb hby at_185) ?_
              show Steps p.tables e below (T12.setTop (mkF m 186 #[.val (.long q0), .second, .val (.long q1), .second, .val (.long q2), .second, .val (.long q3), .second, .val (.int p4), .val (.long q0), .second, .val (.long q1), .second, .val (.long tb), .second, .val (.long ob), .second, .val (.int ms), .val (.int ns), .val (.ref b2), .val (.ref b4), .val (.int (1 : Int32)), .unset] [(.int (0 : Int32))])) t
              refine XS.istore X12.here hx rfl (hb hby at_186) rfl (l' := #[.val (.long q0), .second, .val (.long q1), .second, .val (.long q2), .second, .val (.long q3), .second, .val (.int p4), .val (.long q0), .second, .val (.long q1), .second, .val (.long tb), .second, .val (.long ob), .second, .val (.int ms), .val (.int ns), .val (.ref b2), .val (.ref b4), .val (.int (1 : Int32)), .val (.int (0 : Int32))]) rfl ?_
              show Steps p.tables e below (T12.setTop (mkF m 188 #[.val (.long q0), .second, .val (.long q1), .second, .val (.long q2), .second, .val (.long q3), .second, .val (.int p4), .val (.long q0), .second, .val (.long q1), .second, .val (.long tb), .second, .val (.long ob), .second, .val (.int ms), .val (.int ns), .val (.ref b2), .val (.ref b4), .val (.int (1 : Int32)), .val (.int (0 : Int32))] [])) t
              refine XS.aload X12.here hx rfl (hb hby at_188) rfl rfl ?_
              show Steps p.tables e below (T12.setTop (mkF m 190 #[.val (.long q0), .second, .val (.long q1), .second, .val (.long q2), .second, .val (.long q3), .second, .val (.int p4), .val (.long q0), .second, .val (.long q1), .second, .val (.long tb), .second, .val (.long ob), .second, .val (.int ms), .val (.int ns), .val (.ref b2), .val (.ref b4), .val (.int (1 : Int32)), .val (.int (0 : Int32))] [(.ref b4)])) t
              refine XS.aload X12.here hx rfl (hb hby at_190) rfl rfl ?_
              show Steps p.tables e below (T12.setTop (mkF m 192 #[.val (.long q0), .second, .val (.long q1), .second, .val (.long q2), .second, .val (.long q3), .second, .val (.int p4), .val (.long q0), .second, .val (.long q1), .second, .val (.long tb), .second, .val (.long ob), .second, .val (.int ms), .val (.int ns), .val (.ref b2), .val (.ref b4), .val (.int (1 : Int32)), .val (.int (0 : Int32))] [(.ref b2), (.ref b4)])) t
              exact kt
            refine own_callVp X12 hx hZ hown e12 (hw _ (List.mem_of_getElem? (i := 26) rfl)) (hw _ (List.mem_of_getElem? (i := 27) rfl)) (notFace_of_selects (args := #[]) (mvT hZ (hw _ (List.mem_of_getElem? (i := 29) rfl)))) (hw _ (List.mem_of_getElem? (i := 29) rfl)) (hw _ (List.mem_of_getElem? (i := 28) rfl)) (hw _ (List.mem_of_getElem? (i := 2) rfl)) (hw _ (List.mem_of_getElem? (i := 30) rfl)) (by decide) (rm6 l Z aw hw b4 b2 tb ob q0 q1 T5.heap n0 ZKq5 Pq5_1 Pq5_2 Pq3_1 Pq3_2) Pq5_0 (g := (mkF m 192 #[.val (.long q0), .second, .val (.long q1), .second, .val (.long q2), .second, .val (.long q3), .second, .val (.int p4), .val (.long q0), .second, .val (.long q1), .second, .val (.long tb), .second, .val (.long ob), .second, .val (.int ms), .val (.int ns), .val (.ref b2), .val (.ref b4), .val (.int (1 : Int32)), .val (.int (0 : Int32))] [(.ref b2), (.ref b4)])) rfl (by rw [hml]; rfl) (argsL := [(.ref b2)]) (rest := []) (lenOf pd_4 rfl) rfl rfl (W := 0) (by show 2 * 0 + _ ≤ _; exact Nat.le_of_eq rfl) (hb hby at_192) (by decide) (by decide) (by decide) (by decide) ?_
            intro T17 X17 e17
            refine own_go (T' := T17) (f' := (mkF m 204 #[.val (.long q0), .second, .val (.long q1), .second, .val (.long q2), .second, .val (.long q3), .second, .val (.int p4), .val (.long q0), .second, .val (.long q1), .second, .val (.long tb), .second, .val (.long ob), .second, .val (.int ms), .val (.int ns), .val (.ref b2), .val (.ref b4), .val (.int (1 : Int32)), .val (.int (0 : Int32))] [(.ref b4), (.ref b2)])) (fun t kt => ?_) ?_
            · show Steps p.tables e below (T17.setTop (mkF m 195 #[.val (.long q0), .second, .val (.long q1), .second, .val (.long q2), .second, .val (.long q3), .second, .val (.int p4), .val (.long q0), .second, .val (.long q1), .second, .val (.long tb), .second, .val (.long ob), .second, .val (.int ms), .val (.int ns), .val (.ref b2), .val (.ref b4), .val (.int (1 : Int32)), .val (.int (0 : Int32))] [(.int (own_z (q0 < tb ∧ q1 < ob)))])) t
              refine XS.iload X17.here hx rfl (hb hby at_195) rfl ?_
              show Steps p.tables e below (T17.setTop (mkF m 197 #[.val (.long q0), .second, .val (.long q1), .second, .val (.long q2), .second, .val (.long q3), .second, .val (.int p4), .val (.long q0), .second, .val (.long q1), .second, .val (.long tb), .second, .val (.long ob), .second, .val (.int ms), .val (.int ns), .val (.ref b2), .val (.ref b4), .val (.int (1 : Int32)), .val (.int (0 : Int32))] [(.int (1 : Int32)), (.int (own_z (q0 < tb ∧ q1 < ob)))])) t
              refine XS.icmpNo X17.here hx rfl (hb hby at_197) rfl (teq (show (own_z (q0 < tb ∧ q1 < ob)) = (1 : Int32) from own_z_t ⟨hc141_7, hc151_9⟩)).2 ?_
              show Steps p.tables e below (T17.setTop (mkF m 200 #[.val (.long q0), .second, .val (.long q1), .second, .val (.long q2), .second, .val (.long q3), .second, .val (.int p4), .val (.long q0), .second, .val (.long q1), .second, .val (.long tb), .second, .val (.long ob), .second, .val (.int ms), .val (.int ns), .val (.ref b2), .val (.ref b4), .val (.int (1 : Int32)), .val (.int (0 : Int32))] [])) t
              refine XS.aload X17.here hx rfl (hb hby at_200) rfl rfl ?_
              show Steps p.tables e below (T17.setTop (mkF m 202 #[.val (.long q0), .second, .val (.long q1), .second, .val (.long q2), .second, .val (.long q3), .second, .val (.int p4), .val (.long q0), .second, .val (.long q1), .second, .val (.long tb), .second, .val (.long ob), .second, .val (.int ms), .val (.int ns), .val (.ref b2), .val (.ref b4), .val (.int (1 : Int32)), .val (.int (0 : Int32))] [(.ref b2)])) t
              refine XS.aload X17.here hx rfl (hb hby at_202) rfl rfl ?_
              show Steps p.tables e below (T17.setTop (mkF m 204 #[.val (.long q0), .second, .val (.long q1), .second, .val (.long q2), .second, .val (.long q3), .second, .val (.int p4), .val (.long q0), .second, .val (.long q1), .second, .val (.long tb), .second, .val (.long ob), .second, .val (.int ms), .val (.int ns), .val (.ref b2), .val (.ref b4), .val (.int (1 : Int32)), .val (.int (0 : Int32))] [(.ref b4), (.ref b2)])) t
              exact kt
            refine own_callVp X17 hx hZ hown e17 (hw _ (List.mem_of_getElem? (i := 26) rfl)) (hw _ (List.mem_of_getElem? (i := 27) rfl)) (notFace_of_selects (args := #[]) (mvT hZ (hw _ (List.mem_of_getElem? (i := 29) rfl)))) (hw _ (List.mem_of_getElem? (i := 29) rfl)) (hw _ (List.mem_of_getElem? (i := 28) rfl)) (hw _ (List.mem_of_getElem? (i := 2) rfl)) (hw _ (List.mem_of_getElem? (i := 30) rfl)) (by decide) (rm6 l Z aw hw b2 b4 q0 q1 tb ob T5.heap n0 ZKq5 Pq3_1 Pq3_2 Pq5_1 Pq5_2) Pq3_0 (g := (mkF m 204 #[.val (.long q0), .second, .val (.long q1), .second, .val (.long q2), .second, .val (.long q3), .second, .val (.int p4), .val (.long q0), .second, .val (.long q1), .second, .val (.long tb), .second, .val (.long ob), .second, .val (.int ms), .val (.int ns), .val (.ref b2), .val (.ref b4), .val (.int (1 : Int32)), .val (.int (0 : Int32))] [(.ref b4), (.ref b2)])) rfl (by rw [hml]; rfl) (argsL := [(.ref b4)]) (rest := []) (lenOf pd_4 rfl) rfl rfl (W := 0) (by show 2 * 0 + _ ≤ _; exact Nat.le_of_eq rfl) (hb hby at_204) (by decide) (by decide) (by decide) (by decide) ?_
            intro T18 X18 e18
            refine own_go (T' := T18) (f' := (mkF m 216 #[.val (.long q0), .second, .val (.long q1), .second, .val (.long q2), .second, .val (.long q3), .second, .val (.int p4), .val (.long q0), .second, .val (.long q1), .second, .val (.long tb), .second, .val (.long ob), .second, .val (.int ms), .val (.int ns), .val (.ref b2), .val (.ref b4), .val (.int (1 : Int32)), .val (.int (0 : Int32))] [(.ref b2), (.ref b2)])) (fun t kt => ?_) ?_
            · show Steps p.tables e below (T18.setTop (mkF m 207 #[.val (.long q0), .second, .val (.long q1), .second, .val (.long q2), .second, .val (.long q3), .second, .val (.int p4), .val (.long q0), .second, .val (.long q1), .second, .val (.long tb), .second, .val (.long ob), .second, .val (.int ms), .val (.int ns), .val (.ref b2), .val (.ref b4), .val (.int (1 : Int32)), .val (.int (0 : Int32))] [(.int (own_z (tb < q0 ∧ ob < q1)))])) t
              refine XS.iload X18.here hx rfl (hb hby at_207) rfl ?_
              show Steps p.tables e below (T18.setTop (mkF m 209 #[.val (.long q0), .second, .val (.long q1), .second, .val (.long q2), .second, .val (.long q3), .second, .val (.int p4), .val (.long q0), .second, .val (.long q1), .second, .val (.long tb), .second, .val (.long ob), .second, .val (.int ms), .val (.int ns), .val (.ref b2), .val (.ref b4), .val (.int (1 : Int32)), .val (.int (0 : Int32))] [(.int (0 : Int32)), (.int (own_z (tb < q0 ∧ ob < q1)))])) t
              refine XS.icmpNo X18.here hx rfl (hb hby at_209) rfl (teq (show (own_z (tb < q0 ∧ ob < q1)) = (0 : Int32) from own_z_f (fun h => hc178_13 h.2))).2 ?_
              show Steps p.tables e below (T18.setTop (mkF m 212 #[.val (.long q0), .second, .val (.long q1), .second, .val (.long q2), .second, .val (.long q3), .second, .val (.int p4), .val (.long q0), .second, .val (.long q1), .second, .val (.long tb), .second, .val (.long ob), .second, .val (.int ms), .val (.int ns), .val (.ref b2), .val (.ref b4), .val (.int (1 : Int32)), .val (.int (0 : Int32))] [])) t
              refine XS.aload X18.here hx rfl (hb hby at_212) rfl rfl ?_
              show Steps p.tables e below (T18.setTop (mkF m 214 #[.val (.long q0), .second, .val (.long q1), .second, .val (.long q2), .second, .val (.long q3), .second, .val (.int p4), .val (.long q0), .second, .val (.long q1), .second, .val (.long tb), .second, .val (.long ob), .second, .val (.int ms), .val (.int ns), .val (.ref b2), .val (.ref b4), .val (.int (1 : Int32)), .val (.int (0 : Int32))] [(.ref b2)])) t
              refine XS.aload X18.here hx rfl (hb hby at_214) rfl rfl ?_
              show Steps p.tables e below (T18.setTop (mkF m 216 #[.val (.long q0), .second, .val (.long q1), .second, .val (.long q2), .second, .val (.long q3), .second, .val (.int p4), .val (.long q0), .second, .val (.long q1), .second, .val (.long tb), .second, .val (.long ob), .second, .val (.int ms), .val (.int ns), .val (.ref b2), .val (.ref b4), .val (.int (1 : Int32)), .val (.int (0 : Int32))] [(.ref b2), (.ref b2)])) t
              exact kt
            refine own_callVp X18 hx hZ hown e18 (hw _ (List.mem_of_getElem? (i := 26) rfl)) (hw _ (List.mem_of_getElem? (i := 27) rfl)) (notFace_of_selects (args := #[]) (mvT hZ (hw _ (List.mem_of_getElem? (i := 29) rfl)))) (hw _ (List.mem_of_getElem? (i := 29) rfl)) (hw _ (List.mem_of_getElem? (i := 28) rfl)) (hw _ (List.mem_of_getElem? (i := 2) rfl)) (hw _ (List.mem_of_getElem? (i := 30) rfl)) (by decide) (rm6 l Z aw hw b2 b2 q0 q1 q0 q1 T5.heap n0 ZKq5 Pq3_1 Pq3_2 Pq3_1 Pq3_2) Pq3_0 (g := (mkF m 216 #[.val (.long q0), .second, .val (.long q1), .second, .val (.long q2), .second, .val (.long q3), .second, .val (.int p4), .val (.long q0), .second, .val (.long q1), .second, .val (.long tb), .second, .val (.long ob), .second, .val (.int ms), .val (.int ns), .val (.ref b2), .val (.ref b4), .val (.int (1 : Int32)), .val (.int (0 : Int32))] [(.ref b2), (.ref b2)])) rfl (by rw [hml]; rfl) (argsL := [(.ref b2)]) (rest := []) (lenOf pd_4 rfl) rfl rfl (W := 0) (by show 2 * 0 + _ ≤ _; exact Nat.le_of_eq rfl) (hb hby at_216) (by decide) (by decide) (by decide) (by decide) ?_
            intro T19 X19 e19
            refine own_go (T' := T19) (f' := (mkF m 227 #[.val (.long q0), .second, .val (.long q1), .second, .val (.long q2), .second, .val (.long q3), .second, .val (.int p4), .val (.long q0), .second, .val (.long q1), .second, .val (.long tb), .second, .val (.long ob), .second, .val (.int ms), .val (.int ns), .val (.ref b2), .val (.ref b4), .val (.int (1 : Int32)), .val (.int (0 : Int32))] [(.int (1 : Int32))])) (fun t kt => ?_) ?_
            · show Steps p.tables e below (T19.setTop (mkF m 219 #[.val (.long q0), .second, .val (.long q1), .second, .val (.long q2), .second, .val (.long q3), .second, .val (.int p4), .val (.long q0), .second, .val (.long q1), .second, .val (.long tb), .second, .val (.long ob), .second, .val (.int ms), .val (.int ns), .val (.ref b2), .val (.ref b4), .val (.int (1 : Int32)), .val (.int (0 : Int32))] [(.int (own_z (q0 < q0 ∧ q1 < q1)))])) t
              refine XS.ifNo X19.here hx rfl (hb hby at_219) rfl (own_zN_ne (show ¬ ((q0 < q0 ∧ q1 < q1)) from fun h => Int64.lt_irrefl h.1)) ?_
              show Steps p.tables e below (T19.setTop (mkF m 222 #[.val (.long q0), .second, .val (.long q1), .second, .val (.long q2), .second, .val (.long q3), .second, .val (.int p4), .val (.long q0), .second, .val (.long q1), .second, .val (.long tb), .second, .val (.long ob), .second, .val (.int ms), .val (.int ns), .val (.ref b2), .val (.ref b4), .val (.int (1 : Int32)), .val (.int (0 : Int32))] [])) t
              refine XS.iconst X19.here hx rfl (hb hby at_222) ?_
              show Steps p.tables e below (T19.setTop (mkF m 223 #[.val (.long q0), .second, .val (.long q1), .second, .val (.long q2), .second, .val (.long q3), .second, .val (.int p4), .val (.long q0), .second, .val (.long q1), .second, .val (.long tb), .second, .val (.long ob), .second, .val (.int ms), .val (.int ns), .val (.ref b2), .val (.ref b4), .val (.int (1 : Int32)), .val (.int (0 : Int32))] [(.int (1 : Int32))])) t
              refine XS.goto X19.here hx rfl (pc0 := 223) (pc' := 227) rfl (hb hby at_223) (by decide) (by decide) ?_
              show Steps p.tables e below (T19.setTop (mkF m 227 #[.val (.long q0), .second, .val (.long q1), .second, .val (.long q2), .second, .val (.long q3), .second, .val (.int p4), .val (.long q0), .second, .val (.long q1), .second, .val (.long tb), .second, .val (.long ob), .second, .val (.int ms), .val (.int ns), .val (.ref b2), .val (.ref b4), .val (.int (1 : Int32)), .val (.int (0 : Int32))] [(.int (1 : Int32))])) t
              exact kt
            exact own_retN X19 hP hx hlk e19 (t := .boolean) hret (by simp) (hb hby at_227) (by decide) (by decide) (z' := (1 : Int32)) rfl ⟨rfl, N5⟩
        · refine own_go (T' := T10) (f' := (mkF m 192 #[.val (.long q0), .second, .val (.long q1), .second, .val (.long q2), .second, .val (.long q3), .second, .val (.int p4), .val (.long q0), .second, .val (.long q1), .second, .val (.long tb), .second, .val (.long ob), .second, .val (.int ms), .val (.int ns), .val (.ref b2), .val (.ref b4), .val (.int (1 : Int32)), .val (.int (0 : Int32))] [(.ref b2), (.ref b4)])) (fun t kt => ?_) ?_
          · show Steps p.tables e below (T10.setTop (mkF m 168 #[.val (.long q0), .second, .val (.long q1), .second, .val (.long q2), .second, .val (.long q3), .second, .val (.int p4), .val (.long q0), .second, .val (.long q1), .second, .val (.long tb), .second, .val (.long ob), .second, .val (.int ms), .val (.int ns), .val (.ref b2), .val (.ref b4), .val (.int (1 : Int32)), .unset] [(.int (own_z (tb < q0)))])) t
            refine XS.ifYes X10.here hx rfl (pc0 := 168) (pc' := 185) rfl (hb hby at_168) rfl (own_zY_eq hc168_11) (by decide) (by decide) ?_
            show Steps p.tables e below (T10.setTop (mkF m 185 #[.val (.long q0), .second, .val (.long q1), .second, .val (.long q2), .second, .val (.long q3), .second, .val (.int p4), .val (.long q0), .second, .val (.long q1), .second, .val (.long tb), .second, .val (.long ob), .second, .val (.int ms), .val (.int ns), .val (.ref b2), .val (.ref b4), .val (.int (1 : Int32)), .unset] [])) t
            refine XS.iconst X10.here hx rfl (hb hby at_185) ?_
            show Steps p.tables e below (T10.setTop (mkF m 186 #[.val (.long q0), .second, .val (.long q1), .second, .val (.long q2), .second, .val (.long q3), .second, .val (.int p4), .val (.long q0), .second, .val (.long q1), .second, .val (.long tb), .second, .val (.long ob), .second, .val (.int ms), .val (.int ns), .val (.ref b2), .val (.ref b4), .val (.int (1 : Int32)), .unset] [(.int (0 : Int32))])) t
            refine XS.istore X10.here hx rfl (hb hby at_186) rfl (l' := #[.val (.long q0), .second, .val (.long q1), .second, .val (.long q2), .second, .val (.long q3), .second, .val (.int p4), .val (.long q0), .second, .val (.long q1), .second, .val (.long tb), .second, .val (.long ob), .second, .val (.int ms), .val (.int ns), .val (.ref b2), .val (.ref b4), .val (.int (1 : Int32)), .val (.int (0 : Int32))]) rfl ?_
            show Steps p.tables e below (T10.setTop (mkF m 188 #[.val (.long q0), .second, .val (.long q1), .second, .val (.long q2), .second, .val (.long q3), .second, .val (.int p4), .val (.long q0), .second, .val (.long q1), .second, .val (.long tb), .second, .val (.long ob), .second, .val (.int ms), .val (.int ns), .val (.ref b2), .val (.ref b4), .val (.int (1 : Int32)), .val (.int (0 : Int32))] [])) t
            refine XS.aload X10.here hx rfl (hb hby at_188) rfl rfl ?_
            show Steps p.tables e below (T10.setTop (mkF m 190 #[.val (.long q0), .second, .val (.long q1), .second, .val (.long q2), .second, .val (.long q3), .second, .val (.int p4), .val (.long q0), .second, .val (.long q1), .second, .val (.long tb), .second, .val (.long ob), .second, .val (.int ms), .val (.int ns), .val (.ref b2), .val (.ref b4), .val (.int (1 : Int32)), .val (.int (0 : Int32))] [(.ref b4)])) t
            refine XS.aload X10.here hx rfl (hb hby at_190) rfl rfl ?_
            show Steps p.tables e below (T10.setTop (mkF m 192 #[.val (.long q0), .second, .val (.long q1), .second, .val (.long q2), .second, .val (.long q3), .second, .val (.int p4), .val (.long q0), .second, .val (.long q1), .second, .val (.long tb), .second, .val (.long ob), .second, .val (.int ms), .val (.int ns), .val (.ref b2), .val (.ref b4), .val (.int (1 : Int32)), .val (.int (0 : Int32))] [(.ref b2), (.ref b4)])) t
            exact kt
          refine own_callVp X10 hx hZ hown e10 (hw _ (List.mem_of_getElem? (i := 26) rfl)) (hw _ (List.mem_of_getElem? (i := 27) rfl)) (notFace_of_selects (args := #[]) (mvT hZ (hw _ (List.mem_of_getElem? (i := 29) rfl)))) (hw _ (List.mem_of_getElem? (i := 29) rfl)) (hw _ (List.mem_of_getElem? (i := 28) rfl)) (hw _ (List.mem_of_getElem? (i := 2) rfl)) (hw _ (List.mem_of_getElem? (i := 30) rfl)) (by decide) (rm6 l Z aw hw b4 b2 tb ob q0 q1 T5.heap n0 ZKq5 Pq5_1 Pq5_2 Pq3_1 Pq3_2) Pq5_0 (g := (mkF m 192 #[.val (.long q0), .second, .val (.long q1), .second, .val (.long q2), .second, .val (.long q3), .second, .val (.int p4), .val (.long q0), .second, .val (.long q1), .second, .val (.long tb), .second, .val (.long ob), .second, .val (.int ms), .val (.int ns), .val (.ref b2), .val (.ref b4), .val (.int (1 : Int32)), .val (.int (0 : Int32))] [(.ref b2), (.ref b4)])) rfl (by rw [hml]; rfl) (argsL := [(.ref b2)]) (rest := []) (lenOf pd_4 rfl) rfl rfl (W := 0) (by show 2 * 0 + _ ≤ _; exact Nat.le_of_eq rfl) (hb hby at_192) (by decide) (by decide) (by decide) (by decide) ?_
          intro T20 X20 e20
          refine own_go (T' := T20) (f' := (mkF m 204 #[.val (.long q0), .second, .val (.long q1), .second, .val (.long q2), .second, .val (.long q3), .second, .val (.int p4), .val (.long q0), .second, .val (.long q1), .second, .val (.long tb), .second, .val (.long ob), .second, .val (.int ms), .val (.int ns), .val (.ref b2), .val (.ref b4), .val (.int (1 : Int32)), .val (.int (0 : Int32))] [(.ref b4), (.ref b2)])) (fun t kt => ?_) ?_
          · show Steps p.tables e below (T20.setTop (mkF m 195 #[.val (.long q0), .second, .val (.long q1), .second, .val (.long q2), .second, .val (.long q3), .second, .val (.int p4), .val (.long q0), .second, .val (.long q1), .second, .val (.long tb), .second, .val (.long ob), .second, .val (.int ms), .val (.int ns), .val (.ref b2), .val (.ref b4), .val (.int (1 : Int32)), .val (.int (0 : Int32))] [(.int (own_z (q0 < tb ∧ q1 < ob)))])) t
            refine XS.iload X20.here hx rfl (hb hby at_195) rfl ?_
            show Steps p.tables e below (T20.setTop (mkF m 197 #[.val (.long q0), .second, .val (.long q1), .second, .val (.long q2), .second, .val (.long q3), .second, .val (.int p4), .val (.long q0), .second, .val (.long q1), .second, .val (.long tb), .second, .val (.long ob), .second, .val (.int ms), .val (.int ns), .val (.ref b2), .val (.ref b4), .val (.int (1 : Int32)), .val (.int (0 : Int32))] [(.int (1 : Int32)), (.int (own_z (q0 < tb ∧ q1 < ob)))])) t
            refine XS.icmpNo X20.here hx rfl (hb hby at_197) rfl (teq (show (own_z (q0 < tb ∧ q1 < ob)) = (1 : Int32) from own_z_t ⟨hc141_7, hc151_9⟩)).2 ?_
            show Steps p.tables e below (T20.setTop (mkF m 200 #[.val (.long q0), .second, .val (.long q1), .second, .val (.long q2), .second, .val (.long q3), .second, .val (.int p4), .val (.long q0), .second, .val (.long q1), .second, .val (.long tb), .second, .val (.long ob), .second, .val (.int ms), .val (.int ns), .val (.ref b2), .val (.ref b4), .val (.int (1 : Int32)), .val (.int (0 : Int32))] [])) t
            refine XS.aload X20.here hx rfl (hb hby at_200) rfl rfl ?_
            show Steps p.tables e below (T20.setTop (mkF m 202 #[.val (.long q0), .second, .val (.long q1), .second, .val (.long q2), .second, .val (.long q3), .second, .val (.int p4), .val (.long q0), .second, .val (.long q1), .second, .val (.long tb), .second, .val (.long ob), .second, .val (.int ms), .val (.int ns), .val (.ref b2), .val (.ref b4), .val (.int (1 : Int32)), .val (.int (0 : Int32))] [(.ref b2)])) t
            refine XS.aload X20.here hx rfl (hb hby at_202) rfl rfl ?_
            show Steps p.tables e below (T20.setTop (mkF m 204 #[.val (.long q0), .second, .val (.long q1), .second, .val (.long q2), .second, .val (.long q3), .second, .val (.int p4), .val (.long q0), .second, .val (.long q1), .second, .val (.long tb), .second, .val (.long ob), .second, .val (.int ms), .val (.int ns), .val (.ref b2), .val (.ref b4), .val (.int (1 : Int32)), .val (.int (0 : Int32))] [(.ref b4), (.ref b2)])) t
            exact kt
          refine own_callVp X20 hx hZ hown e20 (hw _ (List.mem_of_getElem? (i := 26) rfl)) (hw _ (List.mem_of_getElem? (i := 27) rfl)) (notFace_of_selects (args := #[]) (mvT hZ (hw _ (List.mem_of_getElem? (i := 29) rfl)))) (hw _ (List.mem_of_getElem? (i := 29) rfl)) (hw _ (List.mem_of_getElem? (i := 28) rfl)) (hw _ (List.mem_of_getElem? (i := 2) rfl)) (hw _ (List.mem_of_getElem? (i := 30) rfl)) (by decide) (rm6 l Z aw hw b2 b4 q0 q1 tb ob T5.heap n0 ZKq5 Pq3_1 Pq3_2 Pq5_1 Pq5_2) Pq3_0 (g := (mkF m 204 #[.val (.long q0), .second, .val (.long q1), .second, .val (.long q2), .second, .val (.long q3), .second, .val (.int p4), .val (.long q0), .second, .val (.long q1), .second, .val (.long tb), .second, .val (.long ob), .second, .val (.int ms), .val (.int ns), .val (.ref b2), .val (.ref b4), .val (.int (1 : Int32)), .val (.int (0 : Int32))] [(.ref b4), (.ref b2)])) rfl (by rw [hml]; rfl) (argsL := [(.ref b4)]) (rest := []) (lenOf pd_4 rfl) rfl rfl (W := 0) (by show 2 * 0 + _ ≤ _; exact Nat.le_of_eq rfl) (hb hby at_204) (by decide) (by decide) (by decide) (by decide) ?_
          intro T21 X21 e21
          refine own_go (T' := T21) (f' := (mkF m 216 #[.val (.long q0), .second, .val (.long q1), .second, .val (.long q2), .second, .val (.long q3), .second, .val (.int p4), .val (.long q0), .second, .val (.long q1), .second, .val (.long tb), .second, .val (.long ob), .second, .val (.int ms), .val (.int ns), .val (.ref b2), .val (.ref b4), .val (.int (1 : Int32)), .val (.int (0 : Int32))] [(.ref b2), (.ref b2)])) (fun t kt => ?_) ?_
          · show Steps p.tables e below (T21.setTop (mkF m 207 #[.val (.long q0), .second, .val (.long q1), .second, .val (.long q2), .second, .val (.long q3), .second, .val (.int p4), .val (.long q0), .second, .val (.long q1), .second, .val (.long tb), .second, .val (.long ob), .second, .val (.int ms), .val (.int ns), .val (.ref b2), .val (.ref b4), .val (.int (1 : Int32)), .val (.int (0 : Int32))] [(.int (own_z (tb < q0 ∧ ob < q1)))])) t
            refine XS.iload X21.here hx rfl (hb hby at_207) rfl ?_
            show Steps p.tables e below (T21.setTop (mkF m 209 #[.val (.long q0), .second, .val (.long q1), .second, .val (.long q2), .second, .val (.long q3), .second, .val (.int p4), .val (.long q0), .second, .val (.long q1), .second, .val (.long tb), .second, .val (.long ob), .second, .val (.int ms), .val (.int ns), .val (.ref b2), .val (.ref b4), .val (.int (1 : Int32)), .val (.int (0 : Int32))] [(.int (0 : Int32)), (.int (own_z (tb < q0 ∧ ob < q1)))])) t
            refine XS.icmpNo X21.here hx rfl (hb hby at_209) rfl (teq (show (own_z (tb < q0 ∧ ob < q1)) = (0 : Int32) from own_z_f (fun h => hc168_11 h.1))).2 ?_
            show Steps p.tables e below (T21.setTop (mkF m 212 #[.val (.long q0), .second, .val (.long q1), .second, .val (.long q2), .second, .val (.long q3), .second, .val (.int p4), .val (.long q0), .second, .val (.long q1), .second, .val (.long tb), .second, .val (.long ob), .second, .val (.int ms), .val (.int ns), .val (.ref b2), .val (.ref b4), .val (.int (1 : Int32)), .val (.int (0 : Int32))] [])) t
            refine XS.aload X21.here hx rfl (hb hby at_212) rfl rfl ?_
            show Steps p.tables e below (T21.setTop (mkF m 214 #[.val (.long q0), .second, .val (.long q1), .second, .val (.long q2), .second, .val (.long q3), .second, .val (.int p4), .val (.long q0), .second, .val (.long q1), .second, .val (.long tb), .second, .val (.long ob), .second, .val (.int ms), .val (.int ns), .val (.ref b2), .val (.ref b4), .val (.int (1 : Int32)), .val (.int (0 : Int32))] [(.ref b2)])) t
            refine XS.aload X21.here hx rfl (hb hby at_214) rfl rfl ?_
            show Steps p.tables e below (T21.setTop (mkF m 216 #[.val (.long q0), .second, .val (.long q1), .second, .val (.long q2), .second, .val (.long q3), .second, .val (.int p4), .val (.long q0), .second, .val (.long q1), .second, .val (.long tb), .second, .val (.long ob), .second, .val (.int ms), .val (.int ns), .val (.ref b2), .val (.ref b4), .val (.int (1 : Int32)), .val (.int (0 : Int32))] [(.ref b2), (.ref b2)])) t
            exact kt
          refine own_callVp X21 hx hZ hown e21 (hw _ (List.mem_of_getElem? (i := 26) rfl)) (hw _ (List.mem_of_getElem? (i := 27) rfl)) (notFace_of_selects (args := #[]) (mvT hZ (hw _ (List.mem_of_getElem? (i := 29) rfl)))) (hw _ (List.mem_of_getElem? (i := 29) rfl)) (hw _ (List.mem_of_getElem? (i := 28) rfl)) (hw _ (List.mem_of_getElem? (i := 2) rfl)) (hw _ (List.mem_of_getElem? (i := 30) rfl)) (by decide) (rm6 l Z aw hw b2 b2 q0 q1 q0 q1 T5.heap n0 ZKq5 Pq3_1 Pq3_2 Pq3_1 Pq3_2) Pq3_0 (g := (mkF m 216 #[.val (.long q0), .second, .val (.long q1), .second, .val (.long q2), .second, .val (.long q3), .second, .val (.int p4), .val (.long q0), .second, .val (.long q1), .second, .val (.long tb), .second, .val (.long ob), .second, .val (.int ms), .val (.int ns), .val (.ref b2), .val (.ref b4), .val (.int (1 : Int32)), .val (.int (0 : Int32))] [(.ref b2), (.ref b2)])) rfl (by rw [hml]; rfl) (argsL := [(.ref b2)]) (rest := []) (lenOf pd_4 rfl) rfl rfl (W := 0) (by show 2 * 0 + _ ≤ _; exact Nat.le_of_eq rfl) (hb hby at_216) (by decide) (by decide) (by decide) (by decide) ?_
          intro T22 X22 e22
          refine own_go (T' := T22) (f' := (mkF m 227 #[.val (.long q0), .second, .val (.long q1), .second, .val (.long q2), .second, .val (.long q3), .second, .val (.int p4), .val (.long q0), .second, .val (.long q1), .second, .val (.long tb), .second, .val (.long ob), .second, .val (.int ms), .val (.int ns), .val (.ref b2), .val (.ref b4), .val (.int (1 : Int32)), .val (.int (0 : Int32))] [(.int (1 : Int32))])) (fun t kt => ?_) ?_
          · show Steps p.tables e below (T22.setTop (mkF m 219 #[.val (.long q0), .second, .val (.long q1), .second, .val (.long q2), .second, .val (.long q3), .second, .val (.int p4), .val (.long q0), .second, .val (.long q1), .second, .val (.long tb), .second, .val (.long ob), .second, .val (.int ms), .val (.int ns), .val (.ref b2), .val (.ref b4), .val (.int (1 : Int32)), .val (.int (0 : Int32))] [(.int (own_z (q0 < q0 ∧ q1 < q1)))])) t
            refine XS.ifNo X22.here hx rfl (hb hby at_219) rfl (own_zN_ne (show ¬ ((q0 < q0 ∧ q1 < q1)) from fun h => Int64.lt_irrefl h.1)) ?_
            show Steps p.tables e below (T22.setTop (mkF m 222 #[.val (.long q0), .second, .val (.long q1), .second, .val (.long q2), .second, .val (.long q3), .second, .val (.int p4), .val (.long q0), .second, .val (.long q1), .second, .val (.long tb), .second, .val (.long ob), .second, .val (.int ms), .val (.int ns), .val (.ref b2), .val (.ref b4), .val (.int (1 : Int32)), .val (.int (0 : Int32))] [])) t
            refine XS.iconst X22.here hx rfl (hb hby at_222) ?_
            show Steps p.tables e below (T22.setTop (mkF m 223 #[.val (.long q0), .second, .val (.long q1), .second, .val (.long q2), .second, .val (.long q3), .second, .val (.int p4), .val (.long q0), .second, .val (.long q1), .second, .val (.long tb), .second, .val (.long ob), .second, .val (.int ms), .val (.int ns), .val (.ref b2), .val (.ref b4), .val (.int (1 : Int32)), .val (.int (0 : Int32))] [(.int (1 : Int32))])) t
            refine XS.goto X22.here hx rfl (pc0 := 223) (pc' := 227) rfl (hb hby at_223) (by decide) (by decide) ?_
            show Steps p.tables e below (T22.setTop (mkF m 227 #[.val (.long q0), .second, .val (.long q1), .second, .val (.long q2), .second, .val (.long q3), .second, .val (.int p4), .val (.long q0), .second, .val (.long q1), .second, .val (.long tb), .second, .val (.long ob), .second, .val (.int ms), .val (.int ns), .val (.ref b2), .val (.ref b4), .val (.int (1 : Int32)), .val (.int (0 : Int32))] [(.int (1 : Int32))])) t
            exact kt
          exact own_retN X22 hP hx hlk e22 (t := .boolean) hret (by simp) (hb hby at_227) (by decide) (by decide) (z' := (1 : Int32)) rfl ⟨rfl, N5⟩
      · refine own_go (T' := T8) (f' := (mkF m 165 #[.val (.long q0), .second, .val (.long q1), .second, .val (.long q2), .second, .val (.long q3), .second, .val (.int p4), .val (.long q0), .second, .val (.long q1), .second, .val (.long tb), .second, .val (.long ob), .second, .val (.int ms), .val (.int ns), .val (.ref b2), .val (.ref b4), .val (.int (0 : Int32)), .unset] [(.long tb), (.long q0)])) (fun t kt => ?_) ?_
        · show Steps p.tables e below (T8.setTop (mkF m 151 #[.val (.long q0), .second, .val (.long q1), .second, .val (.long q2), .second, .val (.long q3), .second, .val (.int p4), .val (.long q0), .second, .val (.long q1), .second, .val (.long tb), .second, .val (.long ob), .second, .val (.int ms), .val (.int ns), .val (.ref b2), .val (.ref b4), .unset, .unset] [(.int (own_z (q1 < ob)))])) t
          refine XS.ifYes X8.here hx rfl (pc0 := 151) (pc' := 158) rfl (hb hby at_151) rfl (own_zY_eq hc151_9) (by decide) (by decide) ?_
          show Steps p.tables e below (T8.setTop (mkF m 158 #[.val (.long q0), .second, .val (.long q1), .second, .val (.long q2), .second, .val (.long q3), .second, .val (.int p4), .val (.long q0), .second, .val (.long q1), .second, .val (.long tb), .second, .val (.long ob), .second, .val (.int ms), .val (.int ns), .val (.ref b2), .val (.ref b4), .unset, .unset] [])) t
          refine XS.iconst X8.here hx rfl (hb hby at_158) ?_
          show Steps p.tables e below (T8.setTop (mkF m 159 #[.val (.long q0), .second, .val (.long q1), .second, .val (.long q2), .second, .val (.long q3), .second, .val (.int p4), .val (.long q0), .second, .val (.long q1), .second, .val (.long tb), .second, .val (.long ob), .second, .val (.int ms), .val (.int ns), .val (.ref b2), .val (.ref b4), .unset, .unset] [(.int (0 : Int32))])) t
          refine XS.istore X8.here hx rfl (hb hby at_159) rfl (l' := #[.val (.long q0), .second, .val (.long q1), .second, .val (.long q2), .second, .val (.long q3), .second, .val (.int p4), .val (.long q0), .second, .val (.long q1), .second, .val (.long tb), .second, .val (.long ob), .second, .val (.int ms), .val (.int ns), .val (.ref b2), .val (.ref b4), .val (.int (0 : Int32)), .unset]) rfl ?_
          show Steps p.tables e below (T8.setTop (mkF m 161 #[.val (.long q0), .second, .val (.long q1), .second, .val (.long q2), .second, .val (.long q3), .second, .val (.int p4), .val (.long q0), .second, .val (.long q1), .second, .val (.long tb), .second, .val (.long ob), .second, .val (.int ms), .val (.int ns), .val (.ref b2), .val (.ref b4), .val (.int (0 : Int32)), .unset] [])) t
          refine XS.lload X8.here hx rfl (hb hby at_161) rfl ?_
          show Steps p.tables e below (T8.setTop (mkF m 163 #[.val (.long q0), .second, .val (.long q1), .second, .val (.long q2), .second, .val (.long q3), .second, .val (.int p4), .val (.long q0), .second, .val (.long q1), .second, .val (.long tb), .second, .val (.long ob), .second, .val (.int ms), .val (.int ns), .val (.ref b2), .val (.ref b4), .val (.int (0 : Int32)), .unset] [(.long q0)])) t
          refine XS.lload X8.here hx rfl (hb hby at_163) rfl ?_
          show Steps p.tables e below (T8.setTop (mkF m 165 #[.val (.long q0), .second, .val (.long q1), .second, .val (.long q2), .second, .val (.long q3), .second, .val (.int p4), .val (.long q0), .second, .val (.long q1), .second, .val (.long tb), .second, .val (.long ob), .second, .val (.int ms), .val (.int ns), .val (.ref b2), .val (.ref b4), .val (.int (0 : Int32)), .unset] [(.long tb), (.long q0)])) t
          exact kt
        refine own_callSp X8 hx hZ hown e8 (hw _ (List.mem_of_getElem? (i := 18) rfl)) (hw _ (List.mem_of_getElem? (i := 19) rfl)) (hw _ (List.mem_of_getElem? (i := 20) rfl)) (hw _ (List.mem_of_getElem? (i := 21) rfl)) (by decide) (rm4 l Z aw hw q0 tb T5.heap n0 ZKq5) (g := (mkF m 165 #[.val (.long q0), .second, .val (.long q1), .second, .val (.long q2), .second, .val (.long q3), .second, .val (.int p4), .val (.long q0), .second, .val (.long q1), .second, .val (.long tb), .second, .val (.long ob), .second, .val (.int ms), .val (.int ns), .val (.ref b2), .val (.ref b4), .val (.int (0 : Int32)), .unset] [(.long tb), (.long q0)])) rfl (by rw [hml]; rfl) (argsL := [(.long q0), (.long tb)]) (rest := []) (lenOf pd_3 rfl) rfl rfl (W := 0) (by show 2 * 0 + _ ≤ _; exact Nat.le_of_eq rfl) (hb hby at_165) (by decide) (by decide) (by decide) (by decide) ?_
        intro T23 X23 e23
        by_cases hc168_24 : (tb < q0)
        · refine own_go (T' := T23) (f' := (mkF m 175 #[.val (.long q0), .second, .val (.long q1), .second, .val (.long q2), .second, .val (.long q3), .second, .val (.int p4), .val (.long q0), .second, .val (.long q1), .second, .val (.long tb), .second, .val (.long ob), .second, .val (.int ms), .val (.int ns), .val (.ref b2), .val (.ref b4), .val (.int (0 : Int32)), .unset] [(.long ob), (.long q1)])) (fun t kt => ?_) ?_
          · show Steps p.tables e below (T23.setTop (mkF m 168 #[.val (.long q0), .second, .val (.long q1), .second, .val (.long q2), .second, .val (.long q3), .second, .val (.int p4), .val (.long q0), .second, .val (.long q1), .second, .val (.long tb), .second, .val (.long ob), .second, .val (.int ms), .val (.int ns), .val (.ref b2), .val (.ref b4), .val (.int (0 : Int32)), .unset] [(.int (own_z (tb < q0)))])) t
            refine XS.ifNo X23.here hx rfl (hb hby at_168) rfl (own_zN_eq hc168_24) ?_
            show Steps p.tables e below (T23.setTop (mkF m 171 #[.val (.long q0), .second, .val (.long q1), .second, .val (.long q2), .second, .val (.long q3), .second, .val (.int p4), .val (.long q0), .second, .val (.long q1), .second, .val (.long tb), .second, .val (.long ob), .second, .val (.int ms), .val (.int ns), .val (.ref b2), .val (.ref b4), .val (.int (0 : Int32)), .unset] [])) t
            refine XS.lload X23.here hx rfl (hb hby at_171) rfl ?_
            show Steps p.tables e below (T23.setTop (mkF m 173 #[.val (.long q0), .second, .val (.long q1), .second, .val (.long q2), .second, .val (.long q3), .second, .val (.int p4), .val (.long q0), .second, .val (.long q1), .second, .val (.long tb), .second, .val (.long ob), .second, .val (.int ms), .val (.int ns), .val (.ref b2), .val (.ref b4), .val (.int (0 : Int32)), .unset] [(.long q1)])) t
            refine XS.lload X23.here hx rfl (hb hby at_173) rfl ?_
            show Steps p.tables e below (T23.setTop (mkF m 175 #[.val (.long q0), .second, .val (.long q1), .second, .val (.long q2), .second, .val (.long q3), .second, .val (.int p4), .val (.long q0), .second, .val (.long q1), .second, .val (.long tb), .second, .val (.long ob), .second, .val (.int ms), .val (.int ns), .val (.ref b2), .val (.ref b4), .val (.int (0 : Int32)), .unset] [(.long ob), (.long q1)])) t
            exact kt
          refine own_callSp X23 hx hZ hown e23 (hw _ (List.mem_of_getElem? (i := 18) rfl)) (hw _ (List.mem_of_getElem? (i := 19) rfl)) (hw _ (List.mem_of_getElem? (i := 20) rfl)) (hw _ (List.mem_of_getElem? (i := 21) rfl)) (by decide) (rm4 l Z aw hw q1 ob T5.heap n0 ZKq5) (g := (mkF m 175 #[.val (.long q0), .second, .val (.long q1), .second, .val (.long q2), .second, .val (.long q3), .second, .val (.int p4), .val (.long q0), .second, .val (.long q1), .second, .val (.long tb), .second, .val (.long ob), .second, .val (.int ms), .val (.int ns), .val (.ref b2), .val (.ref b4), .val (.int (0 : Int32)), .unset] [(.long ob), (.long q1)])) rfl (by rw [hml]; rfl) (argsL := [(.long q1), (.long ob)]) (rest := []) (lenOf pd_3 rfl) rfl rfl (W := 0) (by show 2 * 0 + _ ≤ _; exact Nat.le_of_eq rfl) (hb hby at_175) (by decide) (by decide) (by decide) (by decide) ?_
          intro T25 X25 e25
          by_cases hc178_26 : (ob < q1)
          · refine own_go (T' := T25) (f' := (mkF m 192 #[.val (.long q0), .second, .val (.long q1), .second, .val (.long q2), .second, .val (.long q3), .second, .val (.int p4), .val (.long q0), .second, .val (.long q1), .second, .val (.long tb), .second, .val (.long ob), .second, .val (.int ms), .val (.int ns), .val (.ref b2), .val (.ref b4), .val (.int (0 : Int32)), .val (.int (1 : Int32))] [(.ref b2), (.ref b4)])) (fun t kt => ?_) ?_
            · show Steps p.tables e below (T25.setTop (mkF m 178 #[.val (.long q0), .second, .val (.long q1), .second, .val (.long q2), .second, .val (.long q3), .second, .val (.int p4), .val (.long q0), .second, .val (.long q1), .second, .val (.long tb), .second, .val (.long ob), .second, .val (.int ms), .val (.int ns), .val (.ref b2), .val (.ref b4), .val (.int (0 : Int32)), .unset] [(.int (own_z (ob < q1)))])) t
              refine XS.ifNo X25.here hx rfl (hb hby at_178) rfl (own_zN_eq hc178_26) ?_
              show Steps p.tables e below (T25.setTop (mkF m 181 #[.val (.long q0), .second, .val (.long q1), .second, .val (.long q2), .second, .val (.long q3), .second, .val (.int p4), .val (.long q0), .second, .val (.long q1), .second, .val (.long tb), .second, .val (.long ob), .second, .val (.int ms), .val (.int ns), .val (.ref b2), .val (.ref b4), .val (.int (0 : Int32)), .unset] [])) t
              refine XS.iconst X25.here hx rfl (hb hby at_181) ?_
              show Steps p.tables e below (T25.setTop (mkF m 182 #[.val (.long q0), .second, .val (.long q1), .second, .val (.long q2), .second, .val (.long q3), .second, .val (.int p4), .val (.long q0), .second, .val (.long q1), .second, .val (.long tb), .second, .val (.long ob), .second, .val (.int ms), .val (.int ns), .val (.ref b2), .val (.ref b4), .val (.int (0 : Int32)), .unset] [(.int (1 : Int32))])) t
              refine XS.goto X25.here hx rfl (pc0 := 182) (pc' := 186) rfl (hb hby at_182) (by decide) (by decide) ?_
              show Steps p.tables e below (T25.setTop (mkF m 186 #[.val (.long q0), .second, .val (.long q1), .second, .val (.long q2), .second, .val (.long q3), .second, .val (.int p4), .val (.long q0), .second, .val (.long q1), .second, .val (.long tb), .second, .val (.long ob), .second, .val (.int ms), .val (.int ns), .val (.ref b2), .val (.ref b4), .val (.int (0 : Int32)), .unset] [(.int (1 : Int32))])) t
              refine XS.istore X25.here hx rfl (hb hby at_186) rfl (l' := #[.val (.long q0), .second, .val (.long q1), .second, .val (.long q2), .second, .val (.long q3), .second, .val (.int p4), .val (.long q0), .second, .val (.long q1), .second, .val (.long tb), .second, .val (.long ob), .second, .val (.int ms), .val (.int ns), .val (.ref b2), .val (.ref b4), .val (.int (0 : Int32)), .val (.int (1 : Int32))]) rfl ?_
              show Steps p.tables e below (T25.setTop (mkF m 188 #[.val (.long q0), .second, .val (.long q1), .second, .val (.long q2), .second, .val (.long q3), .second, .val (.int p4), .val (.long q0), .second, .val (.long q1), .second, .val (.long tb), .second, .val (.long ob), .second, .val (.int ms), .val (.int ns), .val (.ref b2), .val (.ref b4), .val (.int (0 : Int32)), .val (.int (1 : Int32))] [])) t
              refine XS.aload X25.here hx rfl (hb hby at_188) rfl rfl ?_
              show Steps p.tables e below (T25.setTop (mkF m 190 #[.val (.long q0), .second, .val (.long q1), .second, .val (.long q2), .second, .val (.long q3), .second, .val (.int p4), .val (.long q0), .second, .val (.long q1), .second, .val (.long tb), .second, .val (.long ob), .second, .val (.int ms), .val (.int ns), .val (.ref b2), .val (.ref b4), .val (.int (0 : Int32)), .val (.int (1 : Int32))] [(.ref b4)])) t
              refine XS.aload X25.here hx rfl (hb hby at_190) rfl rfl ?_
              show Steps p.tables e below (T25.setTop (mkF m 192 #[.val (.long q0), .second, .val (.long q1), .second, .val (.long q2), .second, .val (.long q3), .second, .val (.int p4), .val (.long q0), .second, .val (.long q1), .second, .val (.long tb), .second, .val (.long ob), .second, .val (.int ms), .val (.int ns), .val (.ref b2), .val (.ref b4), .val (.int (0 : Int32)), .val (.int (1 : Int32))] [(.ref b2), (.ref b4)])) t
              exact kt
            refine own_callVp X25 hx hZ hown e25 (hw _ (List.mem_of_getElem? (i := 26) rfl)) (hw _ (List.mem_of_getElem? (i := 27) rfl)) (notFace_of_selects (args := #[]) (mvT hZ (hw _ (List.mem_of_getElem? (i := 29) rfl)))) (hw _ (List.mem_of_getElem? (i := 29) rfl)) (hw _ (List.mem_of_getElem? (i := 28) rfl)) (hw _ (List.mem_of_getElem? (i := 2) rfl)) (hw _ (List.mem_of_getElem? (i := 30) rfl)) (by decide) (rm6 l Z aw hw b4 b2 tb ob q0 q1 T5.heap n0 ZKq5 Pq5_1 Pq5_2 Pq3_1 Pq3_2) Pq5_0 (g := (mkF m 192 #[.val (.long q0), .second, .val (.long q1), .second, .val (.long q2), .second, .val (.long q3), .second, .val (.int p4), .val (.long q0), .second, .val (.long q1), .second, .val (.long tb), .second, .val (.long ob), .second, .val (.int ms), .val (.int ns), .val (.ref b2), .val (.ref b4), .val (.int (0 : Int32)), .val (.int (1 : Int32))] [(.ref b2), (.ref b4)])) rfl (by rw [hml]; rfl) (argsL := [(.ref b2)]) (rest := []) (lenOf pd_4 rfl) rfl rfl (W := 0) (by show 2 * 0 + _ ≤ _; exact Nat.le_of_eq rfl) (hb hby at_192) (by decide) (by decide) (by decide) (by decide) ?_
            intro T27 X27 e27
            refine own_go (T' := T27) (f' := (mkF m 204 #[.val (.long q0), .second, .val (.long q1), .second, .val (.long q2), .second, .val (.long q3), .second, .val (.int p4), .val (.long q0), .second, .val (.long q1), .second, .val (.long tb), .second, .val (.long ob), .second, .val (.int ms), .val (.int ns), .val (.ref b2), .val (.ref b4), .val (.int (0 : Int32)), .val (.int (1 : Int32))] [(.ref b4), (.ref b2)])) (fun t kt => ?_) ?_
            · show Steps p.tables e below (T27.setTop (mkF m 195 #[.val (.long q0), .second, .val (.long q1), .second, .val (.long q2), .second, .val (.long q3), .second, .val (.int p4), .val (.long q0), .second, .val (.long q1), .second, .val (.long tb), .second, .val (.long ob), .second, .val (.int ms), .val (.int ns), .val (.ref b2), .val (.ref b4), .val (.int (0 : Int32)), .val (.int (1 : Int32))] [(.int (own_z (q0 < tb ∧ q1 < ob)))])) t
              refine XS.iload X27.here hx rfl (hb hby at_195) rfl ?_
              show Steps p.tables e below (T27.setTop (mkF m 197 #[.val (.long q0), .second, .val (.long q1), .second, .val (.long q2), .second, .val (.long q3), .second, .val (.int p4), .val (.long q0), .second, .val (.long q1), .second, .val (.long tb), .second, .val (.long ob), .second, .val (.int ms), .val (.int ns), .val (.ref b2), .val (.ref b4), .val (.int (0 : Int32)), .val (.int (1 : Int32))] [(.int (0 : Int32)), (.int (own_z (q0 < tb ∧ q1 < ob)))])) t
              refine XS.icmpNo X27.here hx rfl (hb hby at_197) rfl (teq (show (own_z (q0 < tb ∧ q1 < ob)) = (0 : Int32) from own_z_f (fun h => hc151_9 h.2))).2 ?_
              show Steps p.tables e below (T27.setTop (mkF m 200 #[.val (.long q0), .second, .val (.long q1), .second, .val (.long q2), .second, .val (.long q3), .second, .val (.int p4), .val (.long q0), .second, .val (.long q1), .second, .val (.long tb), .second, .val (.long ob), .second, .val (.int ms), .val (.int ns), .val (.ref b2), .val (.ref b4), .val (.int (0 : Int32)), .val (.int (1 : Int32))] [])) t
              refine XS.aload X27.here hx rfl (hb hby at_200) rfl rfl ?_
              show Steps p.tables e below (T27.setTop (mkF m 202 #[.val (.long q0), .second, .val (.long q1), .second, .val (.long q2), .second, .val (.long q3), .second, .val (.int p4), .val (.long q0), .second, .val (.long q1), .second, .val (.long tb), .second, .val (.long ob), .second, .val (.int ms), .val (.int ns), .val (.ref b2), .val (.ref b4), .val (.int (0 : Int32)), .val (.int (1 : Int32))] [(.ref b2)])) t
              refine XS.aload X27.here hx rfl (hb hby at_202) rfl rfl ?_
              show Steps p.tables e below (T27.setTop (mkF m 204 #[.val (.long q0), .second, .val (.long q1), .second, .val (.long q2), .second, .val (.long q3), .second, .val (.int p4), .val (.long q0), .second, .val (.long q1), .second, .val (.long tb), .second, .val (.long ob), .second, .val (.int ms), .val (.int ns), .val (.ref b2), .val (.ref b4), .val (.int (0 : Int32)), .val (.int (1 : Int32))] [(.ref b4), (.ref b2)])) t
              exact kt
            refine own_callVp X27 hx hZ hown e27 (hw _ (List.mem_of_getElem? (i := 26) rfl)) (hw _ (List.mem_of_getElem? (i := 27) rfl)) (notFace_of_selects (args := #[]) (mvT hZ (hw _ (List.mem_of_getElem? (i := 29) rfl)))) (hw _ (List.mem_of_getElem? (i := 29) rfl)) (hw _ (List.mem_of_getElem? (i := 28) rfl)) (hw _ (List.mem_of_getElem? (i := 2) rfl)) (hw _ (List.mem_of_getElem? (i := 30) rfl)) (by decide) (rm6 l Z aw hw b2 b4 q0 q1 tb ob T5.heap n0 ZKq5 Pq3_1 Pq3_2 Pq5_1 Pq5_2) Pq3_0 (g := (mkF m 204 #[.val (.long q0), .second, .val (.long q1), .second, .val (.long q2), .second, .val (.long q3), .second, .val (.int p4), .val (.long q0), .second, .val (.long q1), .second, .val (.long tb), .second, .val (.long ob), .second, .val (.int ms), .val (.int ns), .val (.ref b2), .val (.ref b4), .val (.int (0 : Int32)), .val (.int (1 : Int32))] [(.ref b4), (.ref b2)])) rfl (by rw [hml]; rfl) (argsL := [(.ref b4)]) (rest := []) (lenOf pd_4 rfl) rfl rfl (W := 0) (by show 2 * 0 + _ ≤ _; exact Nat.le_of_eq rfl) (hb hby at_204) (by decide) (by decide) (by decide) (by decide) ?_
            intro T28 X28 e28
            refine own_go (T' := T28) (f' := (mkF m 216 #[.val (.long q0), .second, .val (.long q1), .second, .val (.long q2), .second, .val (.long q3), .second, .val (.int p4), .val (.long q0), .second, .val (.long q1), .second, .val (.long tb), .second, .val (.long ob), .second, .val (.int ms), .val (.int ns), .val (.ref b2), .val (.ref b4), .val (.int (0 : Int32)), .val (.int (1 : Int32))] [(.ref b2), (.ref b2)])) (fun t kt => ?_) ?_
            · show Steps p.tables e below (T28.setTop (mkF m 207 #[.val (.long q0), .second, .val (.long q1), .second, .val (.long q2), .second, .val (.long q3), .second, .val (.int p4), .val (.long q0), .second, .val (.long q1), .second, .val (.long tb), .second, .val (.long ob), .second, .val (.int ms), .val (.int ns), .val (.ref b2), .val (.ref b4), .val (.int (0 : Int32)), .val (.int (1 : Int32))] [(.int (own_z (tb < q0 ∧ ob < q1)))])) t
              refine XS.iload X28.here hx rfl (hb hby at_207) rfl ?_
              show Steps p.tables e below (T28.setTop (mkF m 209 #[.val (.long q0), .second, .val (.long q1), .second, .val (.long q2), .second, .val (.long q3), .second, .val (.int p4), .val (.long q0), .second, .val (.long q1), .second, .val (.long tb), .second, .val (.long ob), .second, .val (.int ms), .val (.int ns), .val (.ref b2), .val (.ref b4), .val (.int (0 : Int32)), .val (.int (1 : Int32))] [(.int (1 : Int32)), (.int (own_z (tb < q0 ∧ ob < q1)))])) t
              refine XS.icmpNo X28.here hx rfl (hb hby at_209) rfl (teq (show (own_z (tb < q0 ∧ ob < q1)) = (1 : Int32) from own_z_t ⟨hc168_24, hc178_26⟩)).2 ?_
              show Steps p.tables e below (T28.setTop (mkF m 212 #[.val (.long q0), .second, .val (.long q1), .second, .val (.long q2), .second, .val (.long q3), .second, .val (.int p4), .val (.long q0), .second, .val (.long q1), .second, .val (.long tb), .second, .val (.long ob), .second, .val (.int ms), .val (.int ns), .val (.ref b2), .val (.ref b4), .val (.int (0 : Int32)), .val (.int (1 : Int32))] [])) t
              refine XS.aload X28.here hx rfl (hb hby at_212) rfl rfl ?_
              show Steps p.tables e below (T28.setTop (mkF m 214 #[.val (.long q0), .second, .val (.long q1), .second, .val (.long q2), .second, .val (.long q3), .second, .val (.int p4), .val (.long q0), .second, .val (.long q1), .second, .val (.long tb), .second, .val (.long ob), .second, .val (.int ms), .val (.int ns), .val (.ref b2), .val (.ref b4), .val (.int (0 : Int32)), .val (.int (1 : Int32))] [(.ref b2)])) t
              refine XS.aload X28.here hx rfl (hb hby at_214) rfl rfl ?_
              show Steps p.tables e below (T28.setTop (mkF m 216 #[.val (.long q0), .second, .val (.long q1), .second, .val (.long q2), .second, .val (.long q3), .second, .val (.int p4), .val (.long q0), .second, .val (.long q1), .second, .val (.long tb), .second, .val (.long ob), .second, .val (.int ms), .val (.int ns), .val (.ref b2), .val (.ref b4), .val (.int (0 : Int32)), .val (.int (1 : Int32))] [(.ref b2), (.ref b2)])) t
              exact kt
            refine own_callVp X28 hx hZ hown e28 (hw _ (List.mem_of_getElem? (i := 26) rfl)) (hw _ (List.mem_of_getElem? (i := 27) rfl)) (notFace_of_selects (args := #[]) (mvT hZ (hw _ (List.mem_of_getElem? (i := 29) rfl)))) (hw _ (List.mem_of_getElem? (i := 29) rfl)) (hw _ (List.mem_of_getElem? (i := 28) rfl)) (hw _ (List.mem_of_getElem? (i := 2) rfl)) (hw _ (List.mem_of_getElem? (i := 30) rfl)) (by decide) (rm6 l Z aw hw b2 b2 q0 q1 q0 q1 T5.heap n0 ZKq5 Pq3_1 Pq3_2 Pq3_1 Pq3_2) Pq3_0 (g := (mkF m 216 #[.val (.long q0), .second, .val (.long q1), .second, .val (.long q2), .second, .val (.long q3), .second, .val (.int p4), .val (.long q0), .second, .val (.long q1), .second, .val (.long tb), .second, .val (.long ob), .second, .val (.int ms), .val (.int ns), .val (.ref b2), .val (.ref b4), .val (.int (0 : Int32)), .val (.int (1 : Int32))] [(.ref b2), (.ref b2)])) rfl (by rw [hml]; rfl) (argsL := [(.ref b2)]) (rest := []) (lenOf pd_4 rfl) rfl rfl (W := 0) (by show 2 * 0 + _ ≤ _; exact Nat.le_of_eq rfl) (hb hby at_216) (by decide) (by decide) (by decide) (by decide) ?_
            intro T29 X29 e29
            refine own_go (T' := T29) (f' := (mkF m 227 #[.val (.long q0), .second, .val (.long q1), .second, .val (.long q2), .second, .val (.long q3), .second, .val (.int p4), .val (.long q0), .second, .val (.long q1), .second, .val (.long tb), .second, .val (.long ob), .second, .val (.int ms), .val (.int ns), .val (.ref b2), .val (.ref b4), .val (.int (0 : Int32)), .val (.int (1 : Int32))] [(.int (1 : Int32))])) (fun t kt => ?_) ?_
            · show Steps p.tables e below (T29.setTop (mkF m 219 #[.val (.long q0), .second, .val (.long q1), .second, .val (.long q2), .second, .val (.long q3), .second, .val (.int p4), .val (.long q0), .second, .val (.long q1), .second, .val (.long tb), .second, .val (.long ob), .second, .val (.int ms), .val (.int ns), .val (.ref b2), .val (.ref b4), .val (.int (0 : Int32)), .val (.int (1 : Int32))] [(.int (own_z (q0 < q0 ∧ q1 < q1)))])) t
              refine XS.ifNo X29.here hx rfl (hb hby at_219) rfl (own_zN_ne (show ¬ ((q0 < q0 ∧ q1 < q1)) from fun h => Int64.lt_irrefl h.1)) ?_
              show Steps p.tables e below (T29.setTop (mkF m 222 #[.val (.long q0), .second, .val (.long q1), .second, .val (.long q2), .second, .val (.long q3), .second, .val (.int p4), .val (.long q0), .second, .val (.long q1), .second, .val (.long tb), .second, .val (.long ob), .second, .val (.int ms), .val (.int ns), .val (.ref b2), .val (.ref b4), .val (.int (0 : Int32)), .val (.int (1 : Int32))] [])) t
              refine XS.iconst X29.here hx rfl (hb hby at_222) ?_
              show Steps p.tables e below (T29.setTop (mkF m 223 #[.val (.long q0), .second, .val (.long q1), .second, .val (.long q2), .second, .val (.long q3), .second, .val (.int p4), .val (.long q0), .second, .val (.long q1), .second, .val (.long tb), .second, .val (.long ob), .second, .val (.int ms), .val (.int ns), .val (.ref b2), .val (.ref b4), .val (.int (0 : Int32)), .val (.int (1 : Int32))] [(.int (1 : Int32))])) t
              refine XS.goto X29.here hx rfl (pc0 := 223) (pc' := 227) rfl (hb hby at_223) (by decide) (by decide) ?_
              show Steps p.tables e below (T29.setTop (mkF m 227 #[.val (.long q0), .second, .val (.long q1), .second, .val (.long q2), .second, .val (.long q3), .second, .val (.int p4), .val (.long q0), .second, .val (.long q1), .second, .val (.long tb), .second, .val (.long ob), .second, .val (.int ms), .val (.int ns), .val (.ref b2), .val (.ref b4), .val (.int (0 : Int32)), .val (.int (1 : Int32))] [(.int (1 : Int32))])) t
              exact kt
            exact own_retN X29 hP hx hlk e29 (t := .boolean) hret (by simp) (hb hby at_227) (by decide) (by decide) (z' := (1 : Int32)) rfl ⟨rfl, N5⟩
          · refine own_go (T' := T25) (f' := (mkF m 192 #[.val (.long q0), .second, .val (.long q1), .second, .val (.long q2), .second, .val (.long q3), .second, .val (.int p4), .val (.long q0), .second, .val (.long q1), .second, .val (.long tb), .second, .val (.long ob), .second, .val (.int ms), .val (.int ns), .val (.ref b2), .val (.ref b4), .val (.int (0 : Int32)), .val (.int (0 : Int32))] [(.ref b2), (.ref b4)])) (fun t kt => ?_) ?_
            · show Steps p.tables e below (T25.setTop (mkF m 178 #[.val (.long q0), .second, .val (.long q1), .second, .val (.long q2), .second, .val (.long q3), .second, .val (.int p4), .val (.long q0), .second, .val (.long q1), .second, .val (.long tb), .second, .val (.long ob), .second, .val (.int ms), .val (.int ns), .val (.ref b2), .val (.ref b4), .val (.int (0 : Int32)), .unset] [(.int (own_z (ob < q1)))])) t
              refine XS.ifYes X25.here hx rfl (pc0 := 178) (pc' := 185) rfl (hb hby at_178) rfl (own_zY_eq hc178_26) (by decide) (by decide) ?_
              show Steps p.tables e below (T25.setTop (mkF m 185 #[.val (.long q0), .second, .val (.long q1), .second, .val (.long q2), .second, .val (.long q3), .second, .val (.int p4), .val (.long q0), .second, .val (.long q1), .second, .val (.long tb), .second, .val (.long ob), .second, .val (.int ms), .val (.int ns), .val (.ref b2), .val (.ref b4), .val (.int (0 : Int32)), .unset] [])) t
              refine XS.iconst X25.here hx rfl (hb hby at_185) ?_
              show Steps p.tables e below (T25.setTop (mkF m 186 #[.val (.long q0), .second, .val (.long q1), .second, .val (.long q2), .second, .val (.long q3), .second, .val (.int p4), .val (.long q0), .second, .val (.long q1), .second, .val (.long tb), .second, .val (.long ob), .second, .val (.int ms), .val (.int ns), .val (.ref b2), .val (.ref b4), .val (.int (0 : Int32)), .unset] [(.int (0 : Int32))])) t
              refine XS.istore X25.here hx rfl (hb hby at_186) rfl (l' := #[.val (.long q0), .second, .val (.long q1), .second, .val (.long q2), .second, .val (.long q3), .second, .val (.int p4), .val (.long q0), .second, .val (.long q1), .second, .val (.long tb), .second, .val (.long ob), .second, .val (.int ms), .val (.int ns), .val (.ref b2), .val (.ref b4), .val (.int (0 : Int32)), .val (.int (0 : Int32))]) rfl ?_
              show Steps p.tables e below (T25.setTop (mkF m 188 #[.val (.long q0), .second, .val (.long q1), .second, .val (.long q2), .second, .val (.long q3), .second, .val (.int p4), .val (.long q0), .second, .val (.long q1), .second, .val (.long tb), .second, .val (.long ob), .second, .val (.int ms), .val (.int ns), .val (.ref b2), .val (.ref b4), .val (.int (0 : Int32)), .val (.int (0 : Int32))] [])) t
              refine XS.aload X25.here hx rfl (hb hby at_188) rfl rfl ?_
              show Steps p.tables e below (T25.setTop (mkF m 190 #[.val (.long q0), .second, .val (.long q1), .second, .val (.long q2), .second, .val (.long q3), .second, .val (.int p4), .val (.long q0), .second, .val (.long q1), .second, .val (.long tb), .second, .val (.long ob), .second, .val (.int ms), .val (.int ns), .val (.ref b2), .val (.ref b4), .val (.int (0 : Int32)), .val (.int (0 : Int32))] [(.ref b4)])) t
              refine XS.aload X25.here hx rfl (hb hby at_190) rfl rfl ?_
              show Steps p.tables e below (T25.setTop (mkF m 192 #[.val (.long q0), .second, .val (.long q1), .second, .val (.long q2), .second, .val (.long q3), .second, .val (.int p4), .val (.long q0), .second, .val (.long q1), .second, .val (.long tb), .second, .val (.long ob), .second, .val (.int ms), .val (.int ns), .val (.ref b2), .val (.ref b4), .val (.int (0 : Int32)), .val (.int (0 : Int32))] [(.ref b2), (.ref b4)])) t
              exact kt
            refine own_callVp X25 hx hZ hown e25 (hw _ (List.mem_of_getElem? (i := 26) rfl)) (hw _ (List.mem_of_getElem? (i := 27) rfl)) (notFace_of_selects (args := #[]) (mvT hZ (hw _ (List.mem_of_getElem? (i := 29) rfl)))) (hw _ (List.mem_of_getElem? (i := 29) rfl)) (hw _ (List.mem_of_getElem? (i := 28) rfl)) (hw _ (List.mem_of_getElem? (i := 2) rfl)) (hw _ (List.mem_of_getElem? (i := 30) rfl)) (by decide) (rm6 l Z aw hw b4 b2 tb ob q0 q1 T5.heap n0 ZKq5 Pq5_1 Pq5_2 Pq3_1 Pq3_2) Pq5_0 (g := (mkF m 192 #[.val (.long q0), .second, .val (.long q1), .second, .val (.long q2), .second, .val (.long q3), .second, .val (.int p4), .val (.long q0), .second, .val (.long q1), .second, .val (.long tb), .second, .val (.long ob), .second, .val (.int ms), .val (.int ns), .val (.ref b2), .val (.ref b4), .val (.int (0 : Int32)), .val (.int (0 : Int32))] [(.ref b2), (.ref b4)])) rfl (by rw [hml]; rfl) (argsL := [(.ref b2)]) (rest := []) (lenOf pd_4 rfl) rfl rfl (W := 0) (by show 2 * 0 + _ ≤ _; exact Nat.le_of_eq rfl) (hb hby at_192) (by decide) (by decide) (by decide) (by decide) ?_
            intro T30 X30 e30
            refine own_go (T' := T30) (f' := (mkF m 204 #[.val (.long q0), .second, .val (.long q1), .second, .val (.long q2), .second, .val (.long q3), .second, .val (.int p4), .val (.long q0), .second, .val (.long q1), .second, .val (.long tb), .second, .val (.long ob), .second, .val (.int ms), .val (.int ns), .val (.ref b2), .val (.ref b4), .val (.int (0 : Int32)), .val (.int (0 : Int32))] [(.ref b4), (.ref b2)])) (fun t kt => ?_) ?_
            · show Steps p.tables e below (T30.setTop (mkF m 195 #[.val (.long q0), .second, .val (.long q1), .second, .val (.long q2), .second, .val (.long q3), .second, .val (.int p4), .val (.long q0), .second, .val (.long q1), .second, .val (.long tb), .second, .val (.long ob), .second, .val (.int ms), .val (.int ns), .val (.ref b2), .val (.ref b4), .val (.int (0 : Int32)), .val (.int (0 : Int32))] [(.int (own_z (q0 < tb ∧ q1 < ob)))])) t
              refine XS.iload X30.here hx rfl (hb hby at_195) rfl ?_
              show Steps p.tables e below (T30.setTop (mkF m 197 #[.val (.long q0), .second, .val (.long q1), .second, .val (.long q2), .second, .val (.long q3), .second, .val (.int p4), .val (.long q0), .second, .val (.long q1), .second, .val (.long tb), .second, .val (.long ob), .second, .val (.int ms), .val (.int ns), .val (.ref b2), .val (.ref b4), .val (.int (0 : Int32)), .val (.int (0 : Int32))] [(.int (0 : Int32)), (.int (own_z (q0 < tb ∧ q1 < ob)))])) t
              refine XS.icmpNo X30.here hx rfl (hb hby at_197) rfl (teq (show (own_z (q0 < tb ∧ q1 < ob)) = (0 : Int32) from own_z_f (fun h => hc151_9 h.2))).2 ?_
              show Steps p.tables e below (T30.setTop (mkF m 200 #[.val (.long q0), .second, .val (.long q1), .second, .val (.long q2), .second, .val (.long q3), .second, .val (.int p4), .val (.long q0), .second, .val (.long q1), .second, .val (.long tb), .second, .val (.long ob), .second, .val (.int ms), .val (.int ns), .val (.ref b2), .val (.ref b4), .val (.int (0 : Int32)), .val (.int (0 : Int32))] [])) t
              refine XS.aload X30.here hx rfl (hb hby at_200) rfl rfl ?_
              show Steps p.tables e below (T30.setTop (mkF m 202 #[.val (.long q0), .second, .val (.long q1), .second, .val (.long q2), .second, .val (.long q3), .second, .val (.int p4), .val (.long q0), .second, .val (.long q1), .second, .val (.long tb), .second, .val (.long ob), .second, .val (.int ms), .val (.int ns), .val (.ref b2), .val (.ref b4), .val (.int (0 : Int32)), .val (.int (0 : Int32))] [(.ref b2)])) t
              refine XS.aload X30.here hx rfl (hb hby at_202) rfl rfl ?_
              show Steps p.tables e below (T30.setTop (mkF m 204 #[.val (.long q0), .second, .val (.long q1), .second, .val (.long q2), .second, .val (.long q3), .second, .val (.int p4), .val (.long q0), .second, .val (.long q1), .second, .val (.long tb), .second, .val (.long ob), .second, .val (.int ms), .val (.int ns), .val (.ref b2), .val (.ref b4), .val (.int (0 : Int32)), .val (.int (0 : Int32))] [(.ref b4), (.ref b2)])) t
              exact kt
            refine own_callVp X30 hx hZ hown e30 (hw _ (List.mem_of_getElem? (i := 26) rfl)) (hw _ (List.mem_of_getElem? (i := 27) rfl)) (notFace_of_selects (args := #[]) (mvT hZ (hw _ (List.mem_of_getElem? (i := 29) rfl)))) (hw _ (List.mem_of_getElem? (i := 29) rfl)) (hw _ (List.mem_of_getElem? (i := 28) rfl)) (hw _ (List.mem_of_getElem? (i := 2) rfl)) (hw _ (List.mem_of_getElem? (i := 30) rfl)) (by decide) (rm6 l Z aw hw b2 b4 q0 q1 tb ob T5.heap n0 ZKq5 Pq3_1 Pq3_2 Pq5_1 Pq5_2) Pq3_0 (g := (mkF m 204 #[.val (.long q0), .second, .val (.long q1), .second, .val (.long q2), .second, .val (.long q3), .second, .val (.int p4), .val (.long q0), .second, .val (.long q1), .second, .val (.long tb), .second, .val (.long ob), .second, .val (.int ms), .val (.int ns), .val (.ref b2), .val (.ref b4), .val (.int (0 : Int32)), .val (.int (0 : Int32))] [(.ref b4), (.ref b2)])) rfl (by rw [hml]; rfl) (argsL := [(.ref b4)]) (rest := []) (lenOf pd_4 rfl) rfl rfl (W := 0) (by show 2 * 0 + _ ≤ _; exact Nat.le_of_eq rfl) (hb hby at_204) (by decide) (by decide) (by decide) (by decide) ?_
            intro T31 X31 e31
            refine own_go (T' := T31) (f' := (mkF m 216 #[.val (.long q0), .second, .val (.long q1), .second, .val (.long q2), .second, .val (.long q3), .second, .val (.int p4), .val (.long q0), .second, .val (.long q1), .second, .val (.long tb), .second, .val (.long ob), .second, .val (.int ms), .val (.int ns), .val (.ref b2), .val (.ref b4), .val (.int (0 : Int32)), .val (.int (0 : Int32))] [(.ref b2), (.ref b2)])) (fun t kt => ?_) ?_
            · show Steps p.tables e below (T31.setTop (mkF m 207 #[.val (.long q0), .second, .val (.long q1), .second, .val (.long q2), .second, .val (.long q3), .second, .val (.int p4), .val (.long q0), .second, .val (.long q1), .second, .val (.long tb), .second, .val (.long ob), .second, .val (.int ms), .val (.int ns), .val (.ref b2), .val (.ref b4), .val (.int (0 : Int32)), .val (.int (0 : Int32))] [(.int (own_z (tb < q0 ∧ ob < q1)))])) t
              refine XS.iload X31.here hx rfl (hb hby at_207) rfl ?_
              show Steps p.tables e below (T31.setTop (mkF m 209 #[.val (.long q0), .second, .val (.long q1), .second, .val (.long q2), .second, .val (.long q3), .second, .val (.int p4), .val (.long q0), .second, .val (.long q1), .second, .val (.long tb), .second, .val (.long ob), .second, .val (.int ms), .val (.int ns), .val (.ref b2), .val (.ref b4), .val (.int (0 : Int32)), .val (.int (0 : Int32))] [(.int (0 : Int32)), (.int (own_z (tb < q0 ∧ ob < q1)))])) t
              refine XS.icmpNo X31.here hx rfl (hb hby at_209) rfl (teq (show (own_z (tb < q0 ∧ ob < q1)) = (0 : Int32) from own_z_f (fun h => hc178_26 h.2))).2 ?_
              show Steps p.tables e below (T31.setTop (mkF m 212 #[.val (.long q0), .second, .val (.long q1), .second, .val (.long q2), .second, .val (.long q3), .second, .val (.int p4), .val (.long q0), .second, .val (.long q1), .second, .val (.long tb), .second, .val (.long ob), .second, .val (.int ms), .val (.int ns), .val (.ref b2), .val (.ref b4), .val (.int (0 : Int32)), .val (.int (0 : Int32))] [])) t
              refine XS.aload X31.here hx rfl (hb hby at_212) rfl rfl ?_
              show Steps p.tables e below (T31.setTop (mkF m 214 #[.val (.long q0), .second, .val (.long q1), .second, .val (.long q2), .second, .val (.long q3), .second, .val (.int p4), .val (.long q0), .second, .val (.long q1), .second, .val (.long tb), .second, .val (.long ob), .second, .val (.int ms), .val (.int ns), .val (.ref b2), .val (.ref b4), .val (.int (0 : Int32)), .val (.int (0 : Int32))] [(.ref b2)])) t
              refine XS.aload X31.here hx rfl (hb hby at_214) rfl rfl ?_
              show Steps p.tables e below (T31.setTop (mkF m 216 #[.val (.long q0), .second, .val (.long q1), .second, .val (.long q2), .second, .val (.long q3), .second, .val (.int p4), .val (.long q0), .second, .val (.long q1), .second, .val (.long tb), .second, .val (.long ob), .second, .val (.int ms), .val (.int ns), .val (.ref b2), .val (.ref b4), .val (.int (0 : Int32)), .val (.int (0 : Int32))] [(.ref b2), (.ref b2)])) t
              exact kt
            refine own_callVp X31 hx hZ hown e31 (hw _ (List.mem_of_getElem? (i := 26) rfl)) (hw _ (List.mem_of_getElem? (i := 27) rfl)) (notFace_of_selects (args := #[]) (mvT hZ (hw _ (List.mem_of_getElem? (i := 29) rfl)))) (hw _ (List.mem_of_getElem? (i := 29) rfl)) (hw _ (List.mem_of_getElem? (i := 28) rfl)) (hw _ (List.mem_of_getElem? (i := 2) rfl)) (hw _ (List.mem_of_getElem? (i := 30) rfl)) (by decide) (rm6 l Z aw hw b2 b2 q0 q1 q0 q1 T5.heap n0 ZKq5 Pq3_1 Pq3_2 Pq3_1 Pq3_2) Pq3_0 (g := (mkF m 216 #[.val (.long q0), .second, .val (.long q1), .second, .val (.long q2), .second, .val (.long q3), .second, .val (.int p4), .val (.long q0), .second, .val (.long q1), .second, .val (.long tb), .second, .val (.long ob), .second, .val (.int ms), .val (.int ns), .val (.ref b2), .val (.ref b4), .val (.int (0 : Int32)), .val (.int (0 : Int32))] [(.ref b2), (.ref b2)])) rfl (by rw [hml]; rfl) (argsL := [(.ref b2)]) (rest := []) (lenOf pd_4 rfl) rfl rfl (W := 0) (by show 2 * 0 + _ ≤ _; exact Nat.le_of_eq rfl) (hb hby at_216) (by decide) (by decide) (by decide) (by decide) ?_
            intro T32 X32 e32
            refine own_go (T' := T32) (f' := (mkF m 227 #[.val (.long q0), .second, .val (.long q1), .second, .val (.long q2), .second, .val (.long q3), .second, .val (.int p4), .val (.long q0), .second, .val (.long q1), .second, .val (.long tb), .second, .val (.long ob), .second, .val (.int ms), .val (.int ns), .val (.ref b2), .val (.ref b4), .val (.int (0 : Int32)), .val (.int (0 : Int32))] [(.int (1 : Int32))])) (fun t kt => ?_) ?_
            · show Steps p.tables e below (T32.setTop (mkF m 219 #[.val (.long q0), .second, .val (.long q1), .second, .val (.long q2), .second, .val (.long q3), .second, .val (.int p4), .val (.long q0), .second, .val (.long q1), .second, .val (.long tb), .second, .val (.long ob), .second, .val (.int ms), .val (.int ns), .val (.ref b2), .val (.ref b4), .val (.int (0 : Int32)), .val (.int (0 : Int32))] [(.int (own_z (q0 < q0 ∧ q1 < q1)))])) t
              refine XS.ifNo X32.here hx rfl (hb hby at_219) rfl (own_zN_ne (show ¬ ((q0 < q0 ∧ q1 < q1)) from fun h => Int64.lt_irrefl h.1)) ?_
              show Steps p.tables e below (T32.setTop (mkF m 222 #[.val (.long q0), .second, .val (.long q1), .second, .val (.long q2), .second, .val (.long q3), .second, .val (.int p4), .val (.long q0), .second, .val (.long q1), .second, .val (.long tb), .second, .val (.long ob), .second, .val (.int ms), .val (.int ns), .val (.ref b2), .val (.ref b4), .val (.int (0 : Int32)), .val (.int (0 : Int32))] [])) t
              refine XS.iconst X32.here hx rfl (hb hby at_222) ?_
              show Steps p.tables e below (T32.setTop (mkF m 223 #[.val (.long q0), .second, .val (.long q1), .second, .val (.long q2), .second, .val (.long q3), .second, .val (.int p4), .val (.long q0), .second, .val (.long q1), .second, .val (.long tb), .second, .val (.long ob), .second, .val (.int ms), .val (.int ns), .val (.ref b2), .val (.ref b4), .val (.int (0 : Int32)), .val (.int (0 : Int32))] [(.int (1 : Int32))])) t
              refine XS.goto X32.here hx rfl (pc0 := 223) (pc' := 227) rfl (hb hby at_223) (by decide) (by decide) ?_
              show Steps p.tables e below (T32.setTop (mkF m 227 #[.val (.long q0), .second, .val (.long q1), .second, .val (.long q2), .second, .val (.long q3), .second, .val (.int p4), .val (.long q0), .second, .val (.long q1), .second, .val (.long tb), .second, .val (.long ob), .second, .val (.int ms), .val (.int ns), .val (.ref b2), .val (.ref b4), .val (.int (0 : Int32)), .val (.int (0 : Int32))] [(.int (1 : Int32))])) t
              exact kt
            exact own_retN X32 hP hx hlk e32 (t := .boolean) hret (by simp) (hb hby at_227) (by decide) (by decide) (z' := (1 : Int32)) rfl ⟨rfl, N5⟩
        · refine own_go (T' := T23) (f' := (mkF m 192 #[.val (.long q0), .second, .val (.long q1), .second, .val (.long q2), .second, .val (.long q3), .second, .val (.int p4), .val (.long q0), .second, .val (.long q1), .second, .val (.long tb), .second, .val (.long ob), .second, .val (.int ms), .val (.int ns), .val (.ref b2), .val (.ref b4), .val (.int (0 : Int32)), .val (.int (0 : Int32))] [(.ref b2), (.ref b4)])) (fun t kt => ?_) ?_
          · show Steps p.tables e below (T23.setTop (mkF m 168 #[.val (.long q0), .second, .val (.long q1), .second, .val (.long q2), .second, .val (.long q3), .second, .val (.int p4), .val (.long q0), .second, .val (.long q1), .second, .val (.long tb), .second, .val (.long ob), .second, .val (.int ms), .val (.int ns), .val (.ref b2), .val (.ref b4), .val (.int (0 : Int32)), .unset] [(.int (own_z (tb < q0)))])) t
            refine XS.ifYes X23.here hx rfl (pc0 := 168) (pc' := 185) rfl (hb hby at_168) rfl (own_zY_eq hc168_24) (by decide) (by decide) ?_
            show Steps p.tables e below (T23.setTop (mkF m 185 #[.val (.long q0), .second, .val (.long q1), .second, .val (.long q2), .second, .val (.long q3), .second, .val (.int p4), .val (.long q0), .second, .val (.long q1), .second, .val (.long tb), .second, .val (.long ob), .second, .val (.int ms), .val (.int ns), .val (.ref b2), .val (.ref b4), .val (.int (0 : Int32)), .unset] [])) t
            refine XS.iconst X23.here hx rfl (hb hby at_185) ?_
            show Steps p.tables e below (T23.setTop (mkF m 186 #[.val (.long q0), .second, .val (.long q1), .second, .val (.long q2), .second, .val (.long q3), .second, .val (.int p4), .val (.long q0), .second, .val (.long q1), .second, .val (.long tb), .second, .val (.long ob), .second, .val (.int ms), .val (.int ns), .val (.ref b2), .val (.ref b4), .val (.int (0 : Int32)), .unset] [(.int (0 : Int32))])) t
            refine XS.istore X23.here hx rfl (hb hby at_186) rfl (l' := #[.val (.long q0), .second, .val (.long q1), .second, .val (.long q2), .second, .val (.long q3), .second, .val (.int p4), .val (.long q0), .second, .val (.long q1), .second, .val (.long tb), .second, .val (.long ob), .second, .val (.int ms), .val (.int ns), .val (.ref b2), .val (.ref b4), .val (.int (0 : Int32)), .val (.int (0 : Int32))]) rfl ?_
            show Steps p.tables e below (T23.setTop (mkF m 188 #[.val (.long q0), .second, .val (.long q1), .second, .val (.long q2), .second, .val (.long q3), .second, .val (.int p4), .val (.long q0), .second, .val (.long q1), .second, .val (.long tb), .second, .val (.long ob), .second, .val (.int ms), .val (.int ns), .val (.ref b2), .val (.ref b4), .val (.int (0 : Int32)), .val (.int (0 : Int32))] [])) t
            refine XS.aload X23.here hx rfl (hb hby at_188) rfl rfl ?_
            show Steps p.tables e below (T23.setTop (mkF m 190 #[.val (.long q0), .second, .val (.long q1), .second, .val (.long q2), .second, .val (.long q3), .second, .val (.int p4), .val (.long q0), .second, .val (.long q1), .second, .val (.long tb), .second, .val (.long ob), .second, .val (.int ms), .val (.int ns), .val (.ref b2), .val (.ref b4), .val (.int (0 : Int32)), .val (.int (0 : Int32))] [(.ref b4)])) t
            refine XS.aload X23.here hx rfl (hb hby at_190) rfl rfl ?_
            show Steps p.tables e below (T23.setTop (mkF m 192 #[.val (.long q0), .second, .val (.long q1), .second, .val (.long q2), .second, .val (.long q3), .second, .val (.int p4), .val (.long q0), .second, .val (.long q1), .second, .val (.long tb), .second, .val (.long ob), .second, .val (.int ms), .val (.int ns), .val (.ref b2), .val (.ref b4), .val (.int (0 : Int32)), .val (.int (0 : Int32))] [(.ref b2), (.ref b4)])) t
            exact kt
          refine own_callVp X23 hx hZ hown e23 (hw _ (List.mem_of_getElem? (i := 26) rfl)) (hw _ (List.mem_of_getElem? (i := 27) rfl)) (notFace_of_selects (args := #[]) (mvT hZ (hw _ (List.mem_of_getElem? (i := 29) rfl)))) (hw _ (List.mem_of_getElem? (i := 29) rfl)) (hw _ (List.mem_of_getElem? (i := 28) rfl)) (hw _ (List.mem_of_getElem? (i := 2) rfl)) (hw _ (List.mem_of_getElem? (i := 30) rfl)) (by decide) (rm6 l Z aw hw b4 b2 tb ob q0 q1 T5.heap n0 ZKq5 Pq5_1 Pq5_2 Pq3_1 Pq3_2) Pq5_0 (g := (mkF m 192 #[.val (.long q0), .second, .val (.long q1), .second, .val (.long q2), .second, .val (.long q3), .second, .val (.int p4), .val (.long q0), .second, .val (.long q1), .second, .val (.long tb), .second, .val (.long ob), .second, .val (.int ms), .val (.int ns), .val (.ref b2), .val (.ref b4), .val (.int (0 : Int32)), .val (.int (0 : Int32))] [(.ref b2), (.ref b4)])) rfl (by rw [hml]; rfl) (argsL := [(.ref b2)]) (rest := []) (lenOf pd_4 rfl) rfl rfl (W := 0) (by show 2 * 0 + _ ≤ _; exact Nat.le_of_eq rfl) (hb hby at_192) (by decide) (by decide) (by decide) (by decide) ?_
          intro T33 X33 e33
          refine own_go (T' := T33) (f' := (mkF m 204 #[.val (.long q0), .second, .val (.long q1), .second, .val (.long q2), .second, .val (.long q3), .second, .val (.int p4), .val (.long q0), .second, .val (.long q1), .second, .val (.long tb), .second, .val (.long ob), .second, .val (.int ms), .val (.int ns), .val (.ref b2), .val (.ref b4), .val (.int (0 : Int32)), .val (.int (0 : Int32))] [(.ref b4), (.ref b2)])) (fun t kt => ?_) ?_
          · show Steps p.tables e below (T33.setTop (mkF m 195 #[.val (.long q0), .second, .val (.long q1), .second, .val (.long q2), .second, .val (.long q3), .second, .val (.int p4), .val (.long q0), .second, .val (.long q1), .second, .val (.long tb), .second, .val (.long ob), .second, .val (.int ms), .val (.int ns), .val (.ref b2), .val (.ref b4), .val (.int (0 : Int32)), .val (.int (0 : Int32))] [(.int (own_z (q0 < tb ∧ q1 < ob)))])) t
            refine XS.iload X33.here hx rfl (hb hby at_195) rfl ?_
            show Steps p.tables e below (T33.setTop (mkF m 197 #[.val (.long q0), .second, .val (.long q1), .second, .val (.long q2), .second, .val (.long q3), .second, .val (.int p4), .val (.long q0), .second, .val (.long q1), .second, .val (.long tb), .second, .val (.long ob), .second, .val (.int ms), .val (.int ns), .val (.ref b2), .val (.ref b4), .val (.int (0 : Int32)), .val (.int (0 : Int32))] [(.int (0 : Int32)), (.int (own_z (q0 < tb ∧ q1 < ob)))])) t
            refine XS.icmpNo X33.here hx rfl (hb hby at_197) rfl (teq (show (own_z (q0 < tb ∧ q1 < ob)) = (0 : Int32) from own_z_f (fun h => hc151_9 h.2))).2 ?_
            show Steps p.tables e below (T33.setTop (mkF m 200 #[.val (.long q0), .second, .val (.long q1), .second, .val (.long q2), .second, .val (.long q3), .second, .val (.int p4), .val (.long q0), .second, .val (.long q1), .second, .val (.long tb), .second, .val (.long ob), .second, .val (.int ms), .val (.int ns), .val (.ref b2), .val (.ref b4), .val (.int (0 : Int32)), .val (.int (0 : Int32))] [])) t
            refine XS.aload X33.here hx rfl (hb hby at_200) rfl rfl ?_
            show Steps p.tables e below (T33.setTop (mkF m 202 #[.val (.long q0), .second, .val (.long q1), .second, .val (.long q2), .second, .val (.long q3), .second, .val (.int p4), .val (.long q0), .second, .val (.long q1), .second, .val (.long tb), .second, .val (.long ob), .second, .val (.int ms), .val (.int ns), .val (.ref b2), .val (.ref b4), .val (.int (0 : Int32)), .val (.int (0 : Int32))] [(.ref b2)])) t
            refine XS.aload X33.here hx rfl (hb hby at_202) rfl rfl ?_
            show Steps p.tables e below (T33.setTop (mkF m 204 #[.val (.long q0), .second, .val (.long q1), .second, .val (.long q2), .second, .val (.long q3), .second, .val (.int p4), .val (.long q0), .second, .val (.long q1), .second, .val (.long tb), .second, .val (.long ob), .second, .val (.int ms), .val (.int ns), .val (.ref b2), .val (.ref b4), .val (.int (0 : Int32)), .val (.int (0 : Int32))] [(.ref b4), (.ref b2)])) t
            exact kt
          refine own_callVp X33 hx hZ hown e33 (hw _ (List.mem_of_getElem? (i := 26) rfl)) (hw _ (List.mem_of_getElem? (i := 27) rfl)) (notFace_of_selects (args := #[]) (mvT hZ (hw _ (List.mem_of_getElem? (i := 29) rfl)))) (hw _ (List.mem_of_getElem? (i := 29) rfl)) (hw _ (List.mem_of_getElem? (i := 28) rfl)) (hw _ (List.mem_of_getElem? (i := 2) rfl)) (hw _ (List.mem_of_getElem? (i := 30) rfl)) (by decide) (rm6 l Z aw hw b2 b4 q0 q1 tb ob T5.heap n0 ZKq5 Pq3_1 Pq3_2 Pq5_1 Pq5_2) Pq3_0 (g := (mkF m 204 #[.val (.long q0), .second, .val (.long q1), .second, .val (.long q2), .second, .val (.long q3), .second, .val (.int p4), .val (.long q0), .second, .val (.long q1), .second, .val (.long tb), .second, .val (.long ob), .second, .val (.int ms), .val (.int ns), .val (.ref b2), .val (.ref b4), .val (.int (0 : Int32)), .val (.int (0 : Int32))] [(.ref b4), (.ref b2)])) rfl (by rw [hml]; rfl) (argsL := [(.ref b4)]) (rest := []) (lenOf pd_4 rfl) rfl rfl (W := 0) (by show 2 * 0 + _ ≤ _; exact Nat.le_of_eq rfl) (hb hby at_204) (by decide) (by decide) (by decide) (by decide) ?_
          intro T34 X34 e34
          refine own_go (T' := T34) (f' := (mkF m 216 #[.val (.long q0), .second, .val (.long q1), .second, .val (.long q2), .second, .val (.long q3), .second, .val (.int p4), .val (.long q0), .second, .val (.long q1), .second, .val (.long tb), .second, .val (.long ob), .second, .val (.int ms), .val (.int ns), .val (.ref b2), .val (.ref b4), .val (.int (0 : Int32)), .val (.int (0 : Int32))] [(.ref b2), (.ref b2)])) (fun t kt => ?_) ?_
          · show Steps p.tables e below (T34.setTop (mkF m 207 #[.val (.long q0), .second, .val (.long q1), .second, .val (.long q2), .second, .val (.long q3), .second, .val (.int p4), .val (.long q0), .second, .val (.long q1), .second, .val (.long tb), .second, .val (.long ob), .second, .val (.int ms), .val (.int ns), .val (.ref b2), .val (.ref b4), .val (.int (0 : Int32)), .val (.int (0 : Int32))] [(.int (own_z (tb < q0 ∧ ob < q1)))])) t
            refine XS.iload X34.here hx rfl (hb hby at_207) rfl ?_
            show Steps p.tables e below (T34.setTop (mkF m 209 #[.val (.long q0), .second, .val (.long q1), .second, .val (.long q2), .second, .val (.long q3), .second, .val (.int p4), .val (.long q0), .second, .val (.long q1), .second, .val (.long tb), .second, .val (.long ob), .second, .val (.int ms), .val (.int ns), .val (.ref b2), .val (.ref b4), .val (.int (0 : Int32)), .val (.int (0 : Int32))] [(.int (0 : Int32)), (.int (own_z (tb < q0 ∧ ob < q1)))])) t
            refine XS.icmpNo X34.here hx rfl (hb hby at_209) rfl (teq (show (own_z (tb < q0 ∧ ob < q1)) = (0 : Int32) from own_z_f (fun h => hc168_24 h.1))).2 ?_
            show Steps p.tables e below (T34.setTop (mkF m 212 #[.val (.long q0), .second, .val (.long q1), .second, .val (.long q2), .second, .val (.long q3), .second, .val (.int p4), .val (.long q0), .second, .val (.long q1), .second, .val (.long tb), .second, .val (.long ob), .second, .val (.int ms), .val (.int ns), .val (.ref b2), .val (.ref b4), .val (.int (0 : Int32)), .val (.int (0 : Int32))] [])) t
            refine XS.aload X34.here hx rfl (hb hby at_212) rfl rfl ?_
            show Steps p.tables e below (T34.setTop (mkF m 214 #[.val (.long q0), .second, .val (.long q1), .second, .val (.long q2), .second, .val (.long q3), .second, .val (.int p4), .val (.long q0), .second, .val (.long q1), .second, .val (.long tb), .second, .val (.long ob), .second, .val (.int ms), .val (.int ns), .val (.ref b2), .val (.ref b4), .val (.int (0 : Int32)), .val (.int (0 : Int32))] [(.ref b2)])) t
            refine XS.aload X34.here hx rfl (hb hby at_214) rfl rfl ?_
            show Steps p.tables e below (T34.setTop (mkF m 216 #[.val (.long q0), .second, .val (.long q1), .second, .val (.long q2), .second, .val (.long q3), .second, .val (.int p4), .val (.long q0), .second, .val (.long q1), .second, .val (.long tb), .second, .val (.long ob), .second, .val (.int ms), .val (.int ns), .val (.ref b2), .val (.ref b4), .val (.int (0 : Int32)), .val (.int (0 : Int32))] [(.ref b2), (.ref b2)])) t
            exact kt
          refine own_callVp X34 hx hZ hown e34 (hw _ (List.mem_of_getElem? (i := 26) rfl)) (hw _ (List.mem_of_getElem? (i := 27) rfl)) (notFace_of_selects (args := #[]) (mvT hZ (hw _ (List.mem_of_getElem? (i := 29) rfl)))) (hw _ (List.mem_of_getElem? (i := 29) rfl)) (hw _ (List.mem_of_getElem? (i := 28) rfl)) (hw _ (List.mem_of_getElem? (i := 2) rfl)) (hw _ (List.mem_of_getElem? (i := 30) rfl)) (by decide) (rm6 l Z aw hw b2 b2 q0 q1 q0 q1 T5.heap n0 ZKq5 Pq3_1 Pq3_2 Pq3_1 Pq3_2) Pq3_0 (g := (mkF m 216 #[.val (.long q0), .second, .val (.long q1), .second, .val (.long q2), .second, .val (.long q3), .second, .val (.int p4), .val (.long q0), .second, .val (.long q1), .second, .val (.long tb), .second, .val (.long ob), .second, .val (.int ms), .val (.int ns), .val (.ref b2), .val (.ref b4), .val (.int (0 : Int32)), .val (.int (0 : Int32))] [(.ref b2), (.ref b2)])) rfl (by rw [hml]; rfl) (argsL := [(.ref b2)]) (rest := []) (lenOf pd_4 rfl) rfl rfl (W := 0) (by show 2 * 0 + _ ≤ _; exact Nat.le_of_eq rfl) (hb hby at_216) (by decide) (by decide) (by decide) (by decide) ?_
          intro T35 X35 e35
          refine own_go (T' := T35) (f' := (mkF m 227 #[.val (.long q0), .second, .val (.long q1), .second, .val (.long q2), .second, .val (.long q3), .second, .val (.int p4), .val (.long q0), .second, .val (.long q1), .second, .val (.long tb), .second, .val (.long ob), .second, .val (.int ms), .val (.int ns), .val (.ref b2), .val (.ref b4), .val (.int (0 : Int32)), .val (.int (0 : Int32))] [(.int (1 : Int32))])) (fun t kt => ?_) ?_
          · show Steps p.tables e below (T35.setTop (mkF m 219 #[.val (.long q0), .second, .val (.long q1), .second, .val (.long q2), .second, .val (.long q3), .second, .val (.int p4), .val (.long q0), .second, .val (.long q1), .second, .val (.long tb), .second, .val (.long ob), .second, .val (.int ms), .val (.int ns), .val (.ref b2), .val (.ref b4), .val (.int (0 : Int32)), .val (.int (0 : Int32))] [(.int (own_z (q0 < q0 ∧ q1 < q1)))])) t
            refine XS.ifNo X35.here hx rfl (hb hby at_219) rfl (own_zN_ne (show ¬ ((q0 < q0 ∧ q1 < q1)) from fun h => Int64.lt_irrefl h.1)) ?_
            show Steps p.tables e below (T35.setTop (mkF m 222 #[.val (.long q0), .second, .val (.long q1), .second, .val (.long q2), .second, .val (.long q3), .second, .val (.int p4), .val (.long q0), .second, .val (.long q1), .second, .val (.long tb), .second, .val (.long ob), .second, .val (.int ms), .val (.int ns), .val (.ref b2), .val (.ref b4), .val (.int (0 : Int32)), .val (.int (0 : Int32))] [])) t
            refine XS.iconst X35.here hx rfl (hb hby at_222) ?_
            show Steps p.tables e below (T35.setTop (mkF m 223 #[.val (.long q0), .second, .val (.long q1), .second, .val (.long q2), .second, .val (.long q3), .second, .val (.int p4), .val (.long q0), .second, .val (.long q1), .second, .val (.long tb), .second, .val (.long ob), .second, .val (.int ms), .val (.int ns), .val (.ref b2), .val (.ref b4), .val (.int (0 : Int32)), .val (.int (0 : Int32))] [(.int (1 : Int32))])) t
            refine XS.goto X35.here hx rfl (pc0 := 223) (pc' := 227) rfl (hb hby at_223) (by decide) (by decide) ?_
            show Steps p.tables e below (T35.setTop (mkF m 227 #[.val (.long q0), .second, .val (.long q1), .second, .val (.long q2), .second, .val (.long q3), .second, .val (.int p4), .val (.long q0), .second, .val (.long q1), .second, .val (.long tb), .second, .val (.long ob), .second, .val (.int ms), .val (.int ns), .val (.ref b2), .val (.ref b4), .val (.int (0 : Int32)), .val (.int (0 : Int32))] [(.int (1 : Int32))])) t
            exact kt
          exact own_retN X35 hP hx hlk e35 (t := .boolean) hret (by simp) (hb hby at_227) (by decide) (by decide) (z' := (1 : Int32)) rfl ⟨rfl, N5⟩
    · refine own_go (T' := T6) (f' := (mkF m 165 #[.val (.long q0), .second, .val (.long q1), .second, .val (.long q2), .second, .val (.long q3), .second, .val (.int p4), .val (.long q0), .second, .val (.long q1), .second, .val (.long tb), .second, .val (.long ob), .second, .val (.int ms), .val (.int ns), .val (.ref b2), .val (.ref b4), .val (.int (0 : Int32)), .unset] [(.long tb), (.long q0)])) (fun t kt => ?_) ?_
      · show Steps p.tables e below (T6.setTop (mkF m 141 #[.val (.long q0), .second, .val (.long q1), .second, .val (.long q2), .second, .val (.long q3), .second, .val (.int p4), .val (.long q0), .second, .val (.long q1), .second, .val (.long tb), .second, .val (.long ob), .second, .val (.int ms), .val (.int ns), .val (.ref b2), .val (.ref b4), .unset, .unset] [(.int (own_z (q0 < tb)))])) t
        refine XS.ifYes X6.here hx rfl (pc0 := 141) (pc' := 158) rfl (hb hby at_141) rfl (own_zY_eq hc141_7) (by decide) (by decide) ?_
        show Steps p.tables e below (T6.setTop (mkF m 158 #[.val (.long q0), .second, .val (.long q1), .second, .val (.long q2), .second, .val (.long q3), .second, .val (.int p4), .val (.long q0), .second, .val (.long q1), .second, .val (.long tb), .second, .val (.long ob), .second, .val (.int ms), .val (.int ns), .val (.ref b2), .val (.ref b4), .unset, .unset] [])) t
        refine XS.iconst X6.here hx rfl (hb hby at_158) ?_
        show Steps p.tables e below (T6.setTop (mkF m 159 #[.val (.long q0), .second, .val (.long q1), .second, .val (.long q2), .second, .val (.long q3), .second, .val (.int p4), .val (.long q0), .second, .val (.long q1), .second, .val (.long tb), .second, .val (.long ob), .second, .val (.int ms), .val (.int ns), .val (.ref b2), .val (.ref b4), .unset, .unset] [(.int (0 : Int32))])) t
        refine XS.istore X6.here hx rfl (hb hby at_159) rfl (l' := #[.val (.long q0), .second, .val (.long q1), .second, .val (.long q2), .second, .val (.long q3), .second, .val (.int p4), .val (.long q0), .second, .val (.long q1), .second, .val (.long tb), .second, .val (.long ob), .second, .val (.int ms), .val (.int ns), .val (.ref b2), .val (.ref b4), .val (.int (0 : Int32)), .unset]) rfl ?_
        show Steps p.tables e below (T6.setTop (mkF m 161 #[.val (.long q0), .second, .val (.long q1), .second, .val (.long q2), .second, .val (.long q3), .second, .val (.int p4), .val (.long q0), .second, .val (.long q1), .second, .val (.long tb), .second, .val (.long ob), .second, .val (.int ms), .val (.int ns), .val (.ref b2), .val (.ref b4), .val (.int (0 : Int32)), .unset] [])) t
        refine XS.lload X6.here hx rfl (hb hby at_161) rfl ?_
        show Steps p.tables e below (T6.setTop (mkF m 163 #[.val (.long q0), .second, .val (.long q1), .second, .val (.long q2), .second, .val (.long q3), .second, .val (.int p4), .val (.long q0), .second, .val (.long q1), .second, .val (.long tb), .second, .val (.long ob), .second, .val (.int ms), .val (.int ns), .val (.ref b2), .val (.ref b4), .val (.int (0 : Int32)), .unset] [(.long q0)])) t
        refine XS.lload X6.here hx rfl (hb hby at_163) rfl ?_
        show Steps p.tables e below (T6.setTop (mkF m 165 #[.val (.long q0), .second, .val (.long q1), .second, .val (.long q2), .second, .val (.long q3), .second, .val (.int p4), .val (.long q0), .second, .val (.long q1), .second, .val (.long tb), .second, .val (.long ob), .second, .val (.int ms), .val (.int ns), .val (.ref b2), .val (.ref b4), .val (.int (0 : Int32)), .unset] [(.long tb), (.long q0)])) t
        exact kt
      refine own_callSp X6 hx hZ hown e6 (hw _ (List.mem_of_getElem? (i := 18) rfl)) (hw _ (List.mem_of_getElem? (i := 19) rfl)) (hw _ (List.mem_of_getElem? (i := 20) rfl)) (hw _ (List.mem_of_getElem? (i := 21) rfl)) (by decide) (rm4 l Z aw hw q0 tb T5.heap n0 ZKq5) (g := (mkF m 165 #[.val (.long q0), .second, .val (.long q1), .second, .val (.long q2), .second, .val (.long q3), .second, .val (.int p4), .val (.long q0), .second, .val (.long q1), .second, .val (.long tb), .second, .val (.long ob), .second, .val (.int ms), .val (.int ns), .val (.ref b2), .val (.ref b4), .val (.int (0 : Int32)), .unset] [(.long tb), (.long q0)])) rfl (by rw [hml]; rfl) (argsL := [(.long q0), (.long tb)]) (rest := []) (lenOf pd_3 rfl) rfl rfl (W := 0) (by show 2 * 0 + _ ≤ _; exact Nat.le_of_eq rfl) (hb hby at_165) (by decide) (by decide) (by decide) (by decide) ?_
      intro T36 X36 e36
      by_cases hc168_37 : (tb < q0)
      · refine own_go (T' := T36) (f' := (mkF m 175 #[.val (.long q0), .second, .val (.long q1), .second, .val (.long q2), .second, .val (.long q3), .second, .val (.int p4), .val (.long q0), .second, .val (.long q1), .second, .val (.long tb), .second, .val (.long ob), .second, .val (.int ms), .val (.int ns), .val (.ref b2), .val (.ref b4), .val (.int (0 : Int32)), .unset] [(.long ob), (.long q1)])) (fun t kt => ?_) ?_
        · show Steps p.tables e below (T36.setTop (mkF m 168 #[.val (.long q0), .second, .val (.long q1), .second, .val (.long q2), .second, .val (.long q3), .second, .val (.int p4), .val (.long q0), .second, .val (.long q1), .second, .val (.long tb), .second, .val (.long ob), .second, .val (.int ms), .val (.int ns), .val (.ref b2), .val (.ref b4), .val (.int (0 : Int32)), .unset] [(.int (own_z (tb < q0)))])) t
          refine XS.ifNo X36.here hx rfl (hb hby at_168) rfl (own_zN_eq hc168_37) ?_
          show Steps p.tables e below (T36.setTop (mkF m 171 #[.val (.long q0), .second, .val (.long q1), .second, .val (.long q2), .second, .val (.long q3), .second, .val (.int p4), .val (.long q0), .second, .val (.long q1), .second, .val (.long tb), .second, .val (.long ob), .second, .val (.int ms), .val (.int ns), .val (.ref b2), .val (.ref b4), .val (.int (0 : Int32)), .unset] [])) t
          refine XS.lload X36.here hx rfl (hb hby at_171) rfl ?_
          show Steps p.tables e below (T36.setTop (mkF m 173 #[.val (.long q0), .second, .val (.long q1), .second, .val (.long q2), .second, .val (.long q3), .second, .val (.int p4), .val (.long q0), .second, .val (.long q1), .second, .val (.long tb), .second, .val (.long ob), .second, .val (.int ms), .val (.int ns), .val (.ref b2), .val (.ref b4), .val (.int (0 : Int32)), .unset] [(.long q1)])) t
          refine XS.lload X36.here hx rfl (hb hby at_173) rfl ?_
          show Steps p.tables e below (T36.setTop (mkF m 175 #[.val (.long q0), .second, .val (.long q1), .second, .val (.long q2), .second, .val (.long q3), .second, .val (.int p4), .val (.long q0), .second, .val (.long q1), .second, .val (.long tb), .second, .val (.long ob), .second, .val (.int ms), .val (.int ns), .val (.ref b2), .val (.ref b4), .val (.int (0 : Int32)), .unset] [(.long ob), (.long q1)])) t
          exact kt
        refine own_callSp X36 hx hZ hown e36 (hw _ (List.mem_of_getElem? (i := 18) rfl)) (hw _ (List.mem_of_getElem? (i := 19) rfl)) (hw _ (List.mem_of_getElem? (i := 20) rfl)) (hw _ (List.mem_of_getElem? (i := 21) rfl)) (by decide) (rm4 l Z aw hw q1 ob T5.heap n0 ZKq5) (g := (mkF m 175 #[.val (.long q0), .second, .val (.long q1), .second, .val (.long q2), .second, .val (.long q3), .second, .val (.int p4), .val (.long q0), .second, .val (.long q1), .second, .val (.long tb), .second, .val (.long ob), .second, .val (.int ms), .val (.int ns), .val (.ref b2), .val (.ref b4), .val (.int (0 : Int32)), .unset] [(.long ob), (.long q1)])) rfl (by rw [hml]; rfl) (argsL := [(.long q1), (.long ob)]) (rest := []) (lenOf pd_3 rfl) rfl rfl (W := 0) (by show 2 * 0 + _ ≤ _; exact Nat.le_of_eq rfl) (hb hby at_175) (by decide) (by decide) (by decide) (by decide) ?_
        intro T38 X38 e38
        by_cases hc178_39 : (ob < q1)
        · refine own_go (T' := T38) (f' := (mkF m 192 #[.val (.long q0), .second, .val (.long q1), .second, .val (.long q2), .second, .val (.long q3), .second, .val (.int p4), .val (.long q0), .second, .val (.long q1), .second, .val (.long tb), .second, .val (.long ob), .second, .val (.int ms), .val (.int ns), .val (.ref b2), .val (.ref b4), .val (.int (0 : Int32)), .val (.int (1 : Int32))] [(.ref b2), (.ref b4)])) (fun t kt => ?_) ?_
          · show Steps p.tables e below (T38.setTop (mkF m 178 #[.val (.long q0), .second, .val (.long q1), .second, .val (.long q2), .second, .val (.long q3), .second, .val (.int p4), .val (.long q0), .second, .val (.long q1), .second, .val (.long tb), .second, .val (.long ob), .second, .val (.int ms), .val (.int ns), .val (.ref b2), .val (.ref b4), .val (.int (0 : Int32)), .unset] [(.int (own_z (ob < q1)))])) t
            refine XS.ifNo X38.here hx rfl (hb hby at_178) rfl (own_zN_eq hc178_39) ?_
            show Steps p.tables e below (T38.setTop (mkF m 181 #[.val (.long q0), .second, .val (.long q1), .second, .val (.long q2), .second, .val (.long q3), .second, .val (.int p4), .val (.long q0), .second, .val (.long q1), .second, .val (.long tb), .second, .val (.long ob), .second, .val (.int ms), .val (.int ns), .val (.ref b2), .val (.ref b4), .val (.int (0 : Int32)), .unset] [])) t
            refine XS.iconst X38.here hx rfl (hb hby at_181) ?_
            show Steps p.tables e below (T38.setTop (mkF m 182 #[.val (.long q0), .second, .val (.long q1), .second, .val (.long q2), .second, .val (.long q3), .second, .val (.int p4), .val (.long q0), .second, .val (.long q1), .second, .val (.long tb), .second, .val (.long ob), .second, .val (.int ms), .val (.int ns), .val (.ref b2), .val (.ref b4), .val (.int (0 : Int32)), .unset] [(.int (1 : Int32))])) t
            refine XS.goto X38.here hx rfl (pc0 := 182) (pc' := 186) rfl (hb hby at_182) (by decide) (by decide) ?_
            show Steps p.tables e below (T38.setTop (mkF m 186 #[.val (.long q0), .second, .val (.long q1), .second, .val (.long q2), .second, .val (.long q3), .second, .val (.int p4), .val (.long q0), .second, .val (.long q1), .second, .val (.long tb), .second, .val (.long ob), .second, .val (.int ms), .val (.int ns), .val (.ref b2), .val (.ref b4), .val (.int (0 : Int32)), .unset] [(.int (1 : Int32))])) t
            refine XS.istore X38.here hx rfl (hb hby at_186) rfl (l' := #[.val (.long q0), .second, .val (.long q1), .second, .val (.long q2), .second, .val (.long q3), .second, .val (.int p4), .val (.long q0), .second, .val (.long q1), .second, .val (.long tb), .second, .val (.long ob), .second, .val (.int ms), .val (.int ns), .val (.ref b2), .val (.ref b4), .val (.int (0 : Int32)), .val (.int (1 : Int32))]) rfl ?_
            show Steps p.tables e below (T38.setTop (mkF m 188 #[.val (.long q0), .second, .val (.long q1), .second, .val (.long q2), .second, .val (.long q3), .second, .val (.int p4), .val (.long q0), .second, .val (.long q1), .second, .val (.long tb), .second, .val (.long ob), .second, .val (.int ms), .val (.int ns), .val (.ref b2), .val (.ref b4), .val (.int (0 : Int32)), .val (.int (1 : Int32))] [])) t
            refine XS.aload X38.here hx rfl (hb hby at_188) rfl rfl ?_
            show Steps p.tables e below (T38.setTop (mkF m 190 #[.val (.long q0), .second, .val (.long q1), .second, .val (.long q2), .second, .val (.long q3), .second, .val (.int p4), .val (.long q0), .second, .val (.long q1), .second, .val (.long tb), .second, .val (.long ob), .second, .val (.int ms), .val (.int ns), .val (.ref b2), .val (.ref b4), .val (.int (0 : Int32)), .val (.int (1 : Int32))] [(.ref b4)])) t
            refine XS.aload X38.here hx rfl (hb hby at_190) rfl rfl ?_
            show Steps p.tables e below (T38.setTop (mkF m 192 #[.val (.long q0), .second, .val (.long q1), .second, .val (.long q2), .second, .val (.long q3), .second, .val (.int p4), .val (.long q0), .second, .val (.long q1), .second, .val (.long tb), .second, .val (.long ob), .second, .val (.int ms), .val (.int ns), .val (.ref b2), .val (.ref b4), .val (.int (0 : Int32)), .val (.int (1 : Int32))] [(.ref b2), (.ref b4)])) t
            exact kt
          refine own_callVp X38 hx hZ hown e38 (hw _ (List.mem_of_getElem? (i := 26) rfl)) (hw _ (List.mem_of_getElem? (i := 27) rfl)) (notFace_of_selects (args := #[]) (mvT hZ (hw _ (List.mem_of_getElem? (i := 29) rfl)))) (hw _ (List.mem_of_getElem? (i := 29) rfl)) (hw _ (List.mem_of_getElem? (i := 28) rfl)) (hw _ (List.mem_of_getElem? (i := 2) rfl)) (hw _ (List.mem_of_getElem? (i := 30) rfl)) (by decide) (rm6 l Z aw hw b4 b2 tb ob q0 q1 T5.heap n0 ZKq5 Pq5_1 Pq5_2 Pq3_1 Pq3_2) Pq5_0 (g := (mkF m 192 #[.val (.long q0), .second, .val (.long q1), .second, .val (.long q2), .second, .val (.long q3), .second, .val (.int p4), .val (.long q0), .second, .val (.long q1), .second, .val (.long tb), .second, .val (.long ob), .second, .val (.int ms), .val (.int ns), .val (.ref b2), .val (.ref b4), .val (.int (0 : Int32)), .val (.int (1 : Int32))] [(.ref b2), (.ref b4)])) rfl (by rw [hml]; rfl) (argsL := [(.ref b2)]) (rest := []) (lenOf pd_4 rfl) rfl rfl (W := 0) (by show 2 * 0 + _ ≤ _; exact Nat.le_of_eq rfl) (hb hby at_192) (by decide) (by decide) (by decide) (by decide) ?_
          intro T40 X40 e40
          refine own_go (T' := T40) (f' := (mkF m 204 #[.val (.long q0), .second, .val (.long q1), .second, .val (.long q2), .second, .val (.long q3), .second, .val (.int p4), .val (.long q0), .second, .val (.long q1), .second, .val (.long tb), .second, .val (.long ob), .second, .val (.int ms), .val (.int ns), .val (.ref b2), .val (.ref b4), .val (.int (0 : Int32)), .val (.int (1 : Int32))] [(.ref b4), (.ref b2)])) (fun t kt => ?_) ?_
          · show Steps p.tables e below (T40.setTop (mkF m 195 #[.val (.long q0), .second, .val (.long q1), .second, .val (.long q2), .second, .val (.long q3), .second, .val (.int p4), .val (.long q0), .second, .val (.long q1), .second, .val (.long tb), .second, .val (.long ob), .second, .val (.int ms), .val (.int ns), .val (.ref b2), .val (.ref b4), .val (.int (0 : Int32)), .val (.int (1 : Int32))] [(.int (own_z (q0 < tb ∧ q1 < ob)))])) t
            refine XS.iload X40.here hx rfl (hb hby at_195) rfl ?_
            show Steps p.tables e below (T40.setTop (mkF m 197 #[.val (.long q0), .second, .val (.long q1), .second, .val (.long q2), .second, .val (.long q3), .second, .val (.int p4), .val (.long q0), .second, .val (.long q1), .second, .val (.long tb), .second, .val (.long ob), .second, .val (.int ms), .val (.int ns), .val (.ref b2), .val (.ref b4), .val (.int (0 : Int32)), .val (.int (1 : Int32))] [(.int (0 : Int32)), (.int (own_z (q0 < tb ∧ q1 < ob)))])) t
            refine XS.icmpNo X40.here hx rfl (hb hby at_197) rfl (teq (show (own_z (q0 < tb ∧ q1 < ob)) = (0 : Int32) from own_z_f (fun h => hc141_7 h.1))).2 ?_
            show Steps p.tables e below (T40.setTop (mkF m 200 #[.val (.long q0), .second, .val (.long q1), .second, .val (.long q2), .second, .val (.long q3), .second, .val (.int p4), .val (.long q0), .second, .val (.long q1), .second, .val (.long tb), .second, .val (.long ob), .second, .val (.int ms), .val (.int ns), .val (.ref b2), .val (.ref b4), .val (.int (0 : Int32)), .val (.int (1 : Int32))] [])) t
            refine XS.aload X40.here hx rfl (hb hby at_200) rfl rfl ?_
            show Steps p.tables e below (T40.setTop (mkF m 202 #[.val (.long q0), .second, .val (.long q1), .second, .val (.long q2), .second, .val (.long q3), .second, .val (.int p4), .val (.long q0), .second, .val (.long q1), .second, .val (.long tb), .second, .val (.long ob), .second, .val (.int ms), .val (.int ns), .val (.ref b2), .val (.ref b4), .val (.int (0 : Int32)), .val (.int (1 : Int32))] [(.ref b2)])) t
            refine XS.aload X40.here hx rfl (hb hby at_202) rfl rfl ?_
            show Steps p.tables e below (T40.setTop (mkF m 204 #[.val (.long q0), .second, .val (.long q1), .second, .val (.long q2), .second, .val (.long q3), .second, .val (.int p4), .val (.long q0), .second, .val (.long q1), .second, .val (.long tb), .second, .val (.long ob), .second, .val (.int ms), .val (.int ns), .val (.ref b2), .val (.ref b4), .val (.int (0 : Int32)), .val (.int (1 : Int32))] [(.ref b4), (.ref b2)])) t
            exact kt
          refine own_callVp X40 hx hZ hown e40 (hw _ (List.mem_of_getElem? (i := 26) rfl)) (hw _ (List.mem_of_getElem? (i := 27) rfl)) (notFace_of_selects (args := #[]) (mvT hZ (hw _ (List.mem_of_getElem? (i := 29) rfl)))) (hw _ (List.mem_of_getElem? (i := 29) rfl)) (hw _ (List.mem_of_getElem? (i := 28) rfl)) (hw _ (List.mem_of_getElem? (i := 2) rfl)) (hw _ (List.mem_of_getElem? (i := 30) rfl)) (by decide) (rm6 l Z aw hw b2 b4 q0 q1 tb ob T5.heap n0 ZKq5 Pq3_1 Pq3_2 Pq5_1 Pq5_2) Pq3_0 (g := (mkF m 204 #[.val (.long q0), .second, .val (.long q1), .second, .val (.long q2), .second, .val (.long q3), .second, .val (.int p4), .val (.long q0), .second, .val (.long q1), .second, .val (.long tb), .second, .val (.long ob), .second, .val (.int ms), .val (.int ns), .val (.ref b2), .val (.ref b4), .val (.int (0 : Int32)), .val (.int (1 : Int32))] [(.ref b4), (.ref b2)])) rfl (by rw [hml]; rfl) (argsL := [(.ref b4)]) (rest := []) (lenOf pd_4 rfl) rfl rfl (W := 0) (by show 2 * 0 + _ ≤ _; exact Nat.le_of_eq rfl) (hb hby at_204) (by decide) (by decide) (by decide) (by decide) ?_
          intro T41 X41 e41
          refine own_go (T' := T41) (f' := (mkF m 216 #[.val (.long q0), .second, .val (.long q1), .second, .val (.long q2), .second, .val (.long q3), .second, .val (.int p4), .val (.long q0), .second, .val (.long q1), .second, .val (.long tb), .second, .val (.long ob), .second, .val (.int ms), .val (.int ns), .val (.ref b2), .val (.ref b4), .val (.int (0 : Int32)), .val (.int (1 : Int32))] [(.ref b2), (.ref b2)])) (fun t kt => ?_) ?_
          · show Steps p.tables e below (T41.setTop (mkF m 207 #[.val (.long q0), .second, .val (.long q1), .second, .val (.long q2), .second, .val (.long q3), .second, .val (.int p4), .val (.long q0), .second, .val (.long q1), .second, .val (.long tb), .second, .val (.long ob), .second, .val (.int ms), .val (.int ns), .val (.ref b2), .val (.ref b4), .val (.int (0 : Int32)), .val (.int (1 : Int32))] [(.int (own_z (tb < q0 ∧ ob < q1)))])) t
            refine XS.iload X41.here hx rfl (hb hby at_207) rfl ?_
            show Steps p.tables e below (T41.setTop (mkF m 209 #[.val (.long q0), .second, .val (.long q1), .second, .val (.long q2), .second, .val (.long q3), .second, .val (.int p4), .val (.long q0), .second, .val (.long q1), .second, .val (.long tb), .second, .val (.long ob), .second, .val (.int ms), .val (.int ns), .val (.ref b2), .val (.ref b4), .val (.int (0 : Int32)), .val (.int (1 : Int32))] [(.int (1 : Int32)), (.int (own_z (tb < q0 ∧ ob < q1)))])) t
            refine XS.icmpNo X41.here hx rfl (hb hby at_209) rfl (teq (show (own_z (tb < q0 ∧ ob < q1)) = (1 : Int32) from own_z_t ⟨hc168_37, hc178_39⟩)).2 ?_
            show Steps p.tables e below (T41.setTop (mkF m 212 #[.val (.long q0), .second, .val (.long q1), .second, .val (.long q2), .second, .val (.long q3), .second, .val (.int p4), .val (.long q0), .second, .val (.long q1), .second, .val (.long tb), .second, .val (.long ob), .second, .val (.int ms), .val (.int ns), .val (.ref b2), .val (.ref b4), .val (.int (0 : Int32)), .val (.int (1 : Int32))] [])) t
            refine XS.aload X41.here hx rfl (hb hby at_212) rfl rfl ?_
            show Steps p.tables e below (T41.setTop (mkF m 214 #[.val (.long q0), .second, .val (.long q1), .second, .val (.long q2), .second, .val (.long q3), .second, .val (.int p4), .val (.long q0), .second, .val (.long q1), .second, .val (.long tb), .second, .val (.long ob), .second, .val (.int ms), .val (.int ns), .val (.ref b2), .val (.ref b4), .val (.int (0 : Int32)), .val (.int (1 : Int32))] [(.ref b2)])) t
            refine XS.aload X41.here hx rfl (hb hby at_214) rfl rfl ?_
            show Steps p.tables e below (T41.setTop (mkF m 216 #[.val (.long q0), .second, .val (.long q1), .second, .val (.long q2), .second, .val (.long q3), .second, .val (.int p4), .val (.long q0), .second, .val (.long q1), .second, .val (.long tb), .second, .val (.long ob), .second, .val (.int ms), .val (.int ns), .val (.ref b2), .val (.ref b4), .val (.int (0 : Int32)), .val (.int (1 : Int32))] [(.ref b2), (.ref b2)])) t
            exact kt
          refine own_callVp X41 hx hZ hown e41 (hw _ (List.mem_of_getElem? (i := 26) rfl)) (hw _ (List.mem_of_getElem? (i := 27) rfl)) (notFace_of_selects (args := #[]) (mvT hZ (hw _ (List.mem_of_getElem? (i := 29) rfl)))) (hw _ (List.mem_of_getElem? (i := 29) rfl)) (hw _ (List.mem_of_getElem? (i := 28) rfl)) (hw _ (List.mem_of_getElem? (i := 2) rfl)) (hw _ (List.mem_of_getElem? (i := 30) rfl)) (by decide) (rm6 l Z aw hw b2 b2 q0 q1 q0 q1 T5.heap n0 ZKq5 Pq3_1 Pq3_2 Pq3_1 Pq3_2) Pq3_0 (g := (mkF m 216 #[.val (.long q0), .second, .val (.long q1), .second, .val (.long q2), .second, .val (.long q3), .second, .val (.int p4), .val (.long q0), .second, .val (.long q1), .second, .val (.long tb), .second, .val (.long ob), .second, .val (.int ms), .val (.int ns), .val (.ref b2), .val (.ref b4), .val (.int (0 : Int32)), .val (.int (1 : Int32))] [(.ref b2), (.ref b2)])) rfl (by rw [hml]; rfl) (argsL := [(.ref b2)]) (rest := []) (lenOf pd_4 rfl) rfl rfl (W := 0) (by show 2 * 0 + _ ≤ _; exact Nat.le_of_eq rfl) (hb hby at_216) (by decide) (by decide) (by decide) (by decide) ?_
          intro T42 X42 e42
          refine own_go (T' := T42) (f' := (mkF m 227 #[.val (.long q0), .second, .val (.long q1), .second, .val (.long q2), .second, .val (.long q3), .second, .val (.int p4), .val (.long q0), .second, .val (.long q1), .second, .val (.long tb), .second, .val (.long ob), .second, .val (.int ms), .val (.int ns), .val (.ref b2), .val (.ref b4), .val (.int (0 : Int32)), .val (.int (1 : Int32))] [(.int (1 : Int32))])) (fun t kt => ?_) ?_
          · show Steps p.tables e below (T42.setTop (mkF m 219 #[.val (.long q0), .second, .val (.long q1), .second, .val (.long q2), .second, .val (.long q3), .second, .val (.int p4), .val (.long q0), .second, .val (.long q1), .second, .val (.long tb), .second, .val (.long ob), .second, .val (.int ms), .val (.int ns), .val (.ref b2), .val (.ref b4), .val (.int (0 : Int32)), .val (.int (1 : Int32))] [(.int (own_z (q0 < q0 ∧ q1 < q1)))])) t
            refine XS.ifNo X42.here hx rfl (hb hby at_219) rfl (own_zN_ne (show ¬ ((q0 < q0 ∧ q1 < q1)) from fun h => Int64.lt_irrefl h.1)) ?_
            show Steps p.tables e below (T42.setTop (mkF m 222 #[.val (.long q0), .second, .val (.long q1), .second, .val (.long q2), .second, .val (.long q3), .second, .val (.int p4), .val (.long q0), .second, .val (.long q1), .second, .val (.long tb), .second, .val (.long ob), .second, .val (.int ms), .val (.int ns), .val (.ref b2), .val (.ref b4), .val (.int (0 : Int32)), .val (.int (1 : Int32))] [])) t
            refine XS.iconst X42.here hx rfl (hb hby at_222) ?_
            show Steps p.tables e below (T42.setTop (mkF m 223 #[.val (.long q0), .second, .val (.long q1), .second, .val (.long q2), .second, .val (.long q3), .second, .val (.int p4), .val (.long q0), .second, .val (.long q1), .second, .val (.long tb), .second, .val (.long ob), .second, .val (.int ms), .val (.int ns), .val (.ref b2), .val (.ref b4), .val (.int (0 : Int32)), .val (.int (1 : Int32))] [(.int (1 : Int32))])) t
            refine XS.goto X42.here hx rfl (pc0 := 223) (pc' := 227) rfl (hb hby at_223) (by decide) (by decide) ?_
            show Steps p.tables e below (T42.setTop (mkF m 227 #[.val (.long q0), .second, .val (.long q1), .second, .val (.long q2), .second, .val (.long q3), .second, .val (.int p4), .val (.long q0), .second, .val (.long q1), .second, .val (.long tb), .second, .val (.long ob), .second, .val (.int ms), .val (.int ns), .val (.ref b2), .val (.ref b4), .val (.int (0 : Int32)), .val (.int (1 : Int32))] [(.int (1 : Int32))])) t
            exact kt
          exact own_retN X42 hP hx hlk e42 (t := .boolean) hret (by simp) (hb hby at_227) (by decide) (by decide) (z' := (1 : Int32)) rfl ⟨rfl, N5⟩
        · refine own_go (T' := T38) (f' := (mkF m 192 #[.val (.long q0), .second, .val (.long q1), .second, .val (.long q2), .second, .val (.long q3), .second, .val (.int p4), .val (.long q0), .second, .val (.long q1), .second, .val (.long tb), .second, .val (.long ob), .second, .val (.int ms), .val (.int ns), .val (.ref b2), .val (.ref b4), .val (.int (0 : Int32)), .val (.int (0 : Int32))] [(.ref b2), (.ref b4)])) (fun t kt => ?_) ?_
          · show Steps p.tables e below (T38.setTop (mkF m 178 #[.val (.long q0), .second, .val (.long q1), .second, .val (.long q2), .second, .val (.long q3), .second, .val (.int p4), .val (.long q0), .second, .val (.long q1), .second, .val (.long tb), .second, .val (.long ob), .second, .val (.int ms), .val (.int ns), .val (.ref b2), .val (.ref b4), .val (.int (0 : Int32)), .unset] [(.int (own_z (ob < q1)))])) t
            refine XS.ifYes X38.here hx rfl (pc0 := 178) (pc' := 185) rfl (hb hby at_178) rfl (own_zY_eq hc178_39) (by decide) (by decide) ?_
            show Steps p.tables e below (T38.setTop (mkF m 185 #[.val (.long q0), .second, .val (.long q1), .second, .val (.long q2), .second, .val (.long q3), .second, .val (.int p4), .val (.long q0), .second, .val (.long q1), .second, .val (.long tb), .second, .val (.long ob), .second, .val (.int ms), .val (.int ns), .val (.ref b2), .val (.ref b4), .val (.int (0 : Int32)), .unset] [])) t
            refine XS.iconst X38.here hx rfl (hb hby at_185) ?_
            show Steps p.tables e below (T38.setTop (mkF m 186 #[.val (.long q0), .second, .val (.long q1), .second, .val (.long q2), .second, .val (.long q3), .second, .val (.int p4), .val (.long q0), .second, .val (.long q1), .second, .val (.long tb), .second, .val (.long ob), .second, .val (.int ms), .val (.int ns), .val (.ref b2), .val (.ref b4), .val (.int (0 : Int32)), .unset] [(.int (0 : Int32))])) t
            refine XS.istore X38.here hx rfl (hb hby at_186) rfl (l' := #[.val (.long q0), .second, .val (.long q1), .second, .val (.long q2), .second, .val (.long q3), .second, .val (.int p4), .val (.long q0), .second, .val (.long q1), .second, .val (.long tb), .second, .val (.long ob), .second, .val (.int ms), .val (.int ns), .val (.ref b2), .val (.ref b4), .val (.int (0 : Int32)), .val (.int (0 : Int32))]) rfl ?_
            show Steps p.tables e below (T38.setTop (mkF m 188 #[.val (.long q0), .second, .val (.long q1), .second, .val (.long q2), .second, .val (.long q3), .second, .val (.int p4), .val (.long q0), .second, .val (.long q1), .second, .val (.long tb), .second, .val (.long ob), .second, .val (.int ms), .val (.int ns), .val (.ref b2), .val (.ref b4), .val (.int (0 : Int32)), .val (.int (0 : Int32))] [])) t
            refine XS.aload X38.here hx rfl (hb hby at_188) rfl rfl ?_
            show Steps p.tables e below (T38.setTop (mkF m 190 #[.val (.long q0), .second, .val (.long q1), .second, .val (.long q2), .second, .val (.long q3), .second, .val (.int p4), .val (.long q0), .second, .val (.long q1), .second, .val (.long tb), .second, .val (.long ob), .second, .val (.int ms), .val (.int ns), .val (.ref b2), .val (.ref b4), .val (.int (0 : Int32)), .val (.int (0 : Int32))] [(.ref b4)])) t
            refine XS.aload X38.here hx rfl (hb hby at_190) rfl rfl ?_
            show Steps p.tables e below (T38.setTop (mkF m 192 #[.val (.long q0), .second, .val (.long q1), .second, .val (.long q2), .second, .val (.long q3), .second, .val (.int p4), .val (.long q0), .second, .val (.long q1), .second, .val (.long tb), .second, .val (.long ob), .second, .val (.int ms), .val (.int ns), .val (.ref b2), .val (.ref b4), .val (.int (0 : Int32)), .val (.int (0 : Int32))] [(.ref b2), (.ref b4)])) t
            exact kt
          refine own_callVp X38 hx hZ hown e38 (hw _ (List.mem_of_getElem? (i := 26) rfl)) (hw _ (List.mem_of_getElem? (i := 27) rfl)) (notFace_of_selects (args := #[]) (mvT hZ (hw _ (List.mem_of_getElem? (i := 29) rfl)))) (hw _ (List.mem_of_getElem? (i := 29) rfl)) (hw _ (List.mem_of_getElem? (i := 28) rfl)) (hw _ (List.mem_of_getElem? (i := 2) rfl)) (hw _ (List.mem_of_getElem? (i := 30) rfl)) (by decide) (rm6 l Z aw hw b4 b2 tb ob q0 q1 T5.heap n0 ZKq5 Pq5_1 Pq5_2 Pq3_1 Pq3_2) Pq5_0 (g := (mkF m 192 #[.val (.long q0), .second, .val (.long q1), .second, .val (.long q2), .second, .val (.long q3), .second, .val (.int p4), .val (.long q0), .second, .val (.long q1), .second, .val (.long tb), .second, .val (.long ob), .second, .val (.int ms), .val (.int ns), .val (.ref b2), .val (.ref b4), .val (.int (0 : Int32)), .val (.int (0 : Int32))] [(.ref b2), (.ref b4)])) rfl (by rw [hml]; rfl) (argsL := [(.ref b2)]) (rest := []) (lenOf pd_4 rfl) rfl rfl (W := 0) (by show 2 * 0 + _ ≤ _; exact Nat.le_of_eq rfl) (hb hby at_192) (by decide) (by decide) (by decide) (by decide) ?_
          intro T43 X43 e43
          refine own_go (T' := T43) (f' := (mkF m 204 #[.val (.long q0), .second, .val (.long q1), .second, .val (.long q2), .second, .val (.long q3), .second, .val (.int p4), .val (.long q0), .second, .val (.long q1), .second, .val (.long tb), .second, .val (.long ob), .second, .val (.int ms), .val (.int ns), .val (.ref b2), .val (.ref b4), .val (.int (0 : Int32)), .val (.int (0 : Int32))] [(.ref b4), (.ref b2)])) (fun t kt => ?_) ?_
          · show Steps p.tables e below (T43.setTop (mkF m 195 #[.val (.long q0), .second, .val (.long q1), .second, .val (.long q2), .second, .val (.long q3), .second, .val (.int p4), .val (.long q0), .second, .val (.long q1), .second, .val (.long tb), .second, .val (.long ob), .second, .val (.int ms), .val (.int ns), .val (.ref b2), .val (.ref b4), .val (.int (0 : Int32)), .val (.int (0 : Int32))] [(.int (own_z (q0 < tb ∧ q1 < ob)))])) t
            refine XS.iload X43.here hx rfl (hb hby at_195) rfl ?_
            show Steps p.tables e below (T43.setTop (mkF m 197 #[.val (.long q0), .second, .val (.long q1), .second, .val (.long q2), .second, .val (.long q3), .second, .val (.int p4), .val (.long q0), .second, .val (.long q1), .second, .val (.long tb), .second, .val (.long ob), .second, .val (.int ms), .val (.int ns), .val (.ref b2), .val (.ref b4), .val (.int (0 : Int32)), .val (.int (0 : Int32))] [(.int (0 : Int32)), (.int (own_z (q0 < tb ∧ q1 < ob)))])) t
            refine XS.icmpNo X43.here hx rfl (hb hby at_197) rfl (teq (show (own_z (q0 < tb ∧ q1 < ob)) = (0 : Int32) from own_z_f (fun h => hc141_7 h.1))).2 ?_
            show Steps p.tables e below (T43.setTop (mkF m 200 #[.val (.long q0), .second, .val (.long q1), .second, .val (.long q2), .second, .val (.long q3), .second, .val (.int p4), .val (.long q0), .second, .val (.long q1), .second, .val (.long tb), .second, .val (.long ob), .second, .val (.int ms), .val (.int ns), .val (.ref b2), .val (.ref b4), .val (.int (0 : Int32)), .val (.int (0 : Int32))] [])) t
            refine XS.aload X43.here hx rfl (hb hby at_200) rfl rfl ?_
            show Steps p.tables e below (T43.setTop (mkF m 202 #[.val (.long q0), .second, .val (.long q1), .second, .val (.long q2), .second, .val (.long q3), .second, .val (.int p4), .val (.long q0), .second, .val (.long q1), .second, .val (.long tb), .second, .val (.long ob), .second, .val (.int ms), .val (.int ns), .val (.ref b2), .val (.ref b4), .val (.int (0 : Int32)), .val (.int (0 : Int32))] [(.ref b2)])) t
            refine XS.aload X43.here hx rfl (hb hby at_202) rfl rfl ?_
            show Steps p.tables e below (T43.setTop (mkF m 204 #[.val (.long q0), .second, .val (.long q1), .second, .val (.long q2), .second, .val (.long q3), .second, .val (.int p4), .val (.long q0), .second, .val (.long q1), .second, .val (.long tb), .second, .val (.long ob), .second, .val (.int ms), .val (.int ns), .val (.ref b2), .val (.ref b4), .val (.int (0 : Int32)), .val (.int (0 : Int32))] [(.ref b4), (.ref b2)])) t
            exact kt
          refine own_callVp X43 hx hZ hown e43 (hw _ (List.mem_of_getElem? (i := 26) rfl)) (hw _ (List.mem_of_getElem? (i := 27) rfl)) (notFace_of_selects (args := #[]) (mvT hZ (hw _ (List.mem_of_getElem? (i := 29) rfl)))) (hw _ (List.mem_of_getElem? (i := 29) rfl)) (hw _ (List.mem_of_getElem? (i := 28) rfl)) (hw _ (List.mem_of_getElem? (i := 2) rfl)) (hw _ (List.mem_of_getElem? (i := 30) rfl)) (by decide) (rm6 l Z aw hw b2 b4 q0 q1 tb ob T5.heap n0 ZKq5 Pq3_1 Pq3_2 Pq5_1 Pq5_2) Pq3_0 (g := (mkF m 204 #[.val (.long q0), .second, .val (.long q1), .second, .val (.long q2), .second, .val (.long q3), .second, .val (.int p4), .val (.long q0), .second, .val (.long q1), .second, .val (.long tb), .second, .val (.long ob), .second, .val (.int ms), .val (.int ns), .val (.ref b2), .val (.ref b4), .val (.int (0 : Int32)), .val (.int (0 : Int32))] [(.ref b4), (.ref b2)])) rfl (by rw [hml]; rfl) (argsL := [(.ref b4)]) (rest := []) (lenOf pd_4 rfl) rfl rfl (W := 0) (by show 2 * 0 + _ ≤ _; exact Nat.le_of_eq rfl) (hb hby at_204) (by decide) (by decide) (by decide) (by decide) ?_
          intro T44 X44 e44
          refine own_go (T' := T44) (f' := (mkF m 216 #[.val (.long q0), .second, .val (.long q1), .second, .val (.long q2), .second, .val (.long q3), .second, .val (.int p4), .val (.long q0), .second, .val (.long q1), .second, .val (.long tb), .second, .val (.long ob), .second, .val (.int ms), .val (.int ns), .val (.ref b2), .val (.ref b4), .val (.int (0 : Int32)), .val (.int (0 : Int32))] [(.ref b2), (.ref b2)])) (fun t kt => ?_) ?_
          · show Steps p.tables e below (T44.setTop (mkF m 207 #[.val (.long q0), .second, .val (.long q1), .second, .val (.long q2), .second, .val (.long q3), .second, .val (.int p4), .val (.long q0), .second, .val (.long q1), .second, .val (.long tb), .second, .val (.long ob), .second, .val (.int ms), .val (.int ns), .val (.ref b2), .val (.ref b4), .val (.int (0 : Int32)), .val (.int (0 : Int32))] [(.int (own_z (tb < q0 ∧ ob < q1)))])) t
            refine XS.iload X44.here hx rfl (hb hby at_207) rfl ?_
            show Steps p.tables e below (T44.setTop (mkF m 209 #[.val (.long q0), .second, .val (.long q1), .second, .val (.long q2), .second, .val (.long q3), .second, .val (.int p4), .val (.long q0), .second, .val (.long q1), .second, .val (.long tb), .second, .val (.long ob), .second, .val (.int ms), .val (.int ns), .val (.ref b2), .val (.ref b4), .val (.int (0 : Int32)), .val (.int (0 : Int32))] [(.int (0 : Int32)), (.int (own_z (tb < q0 ∧ ob < q1)))])) t
            refine XS.icmpNo X44.here hx rfl (hb hby at_209) rfl (teq (show (own_z (tb < q0 ∧ ob < q1)) = (0 : Int32) from own_z_f (fun h => hc178_39 h.2))).2 ?_
            show Steps p.tables e below (T44.setTop (mkF m 212 #[.val (.long q0), .second, .val (.long q1), .second, .val (.long q2), .second, .val (.long q3), .second, .val (.int p4), .val (.long q0), .second, .val (.long q1), .second, .val (.long tb), .second, .val (.long ob), .second, .val (.int ms), .val (.int ns), .val (.ref b2), .val (.ref b4), .val (.int (0 : Int32)), .val (.int (0 : Int32))] [])) t
            refine XS.aload X44.here hx rfl (hb hby at_212) rfl rfl ?_
            show Steps p.tables e below (T44.setTop (mkF m 214 #[.val (.long q0), .second, .val (.long q1), .second, .val (.long q2), .second, .val (.long q3), .second, .val (.int p4), .val (.long q0), .second, .val (.long q1), .second, .val (.long tb), .second, .val (.long ob), .second, .val (.int ms), .val (.int ns), .val (.ref b2), .val (.ref b4), .val (.int (0 : Int32)), .val (.int (0 : Int32))] [(.ref b2)])) t
            refine XS.aload X44.here hx rfl (hb hby at_214) rfl rfl ?_
            show Steps p.tables e below (T44.setTop (mkF m 216 #[.val (.long q0), .second, .val (.long q1), .second, .val (.long q2), .second, .val (.long q3), .second, .val (.int p4), .val (.long q0), .second, .val (.long q1), .second, .val (.long tb), .second, .val (.long ob), .second, .val (.int ms), .val (.int ns), .val (.ref b2), .val (.ref b4), .val (.int (0 : Int32)), .val (.int (0 : Int32))] [(.ref b2), (.ref b2)])) t
            exact kt
          refine own_callVp X44 hx hZ hown e44 (hw _ (List.mem_of_getElem? (i := 26) rfl)) (hw _ (List.mem_of_getElem? (i := 27) rfl)) (notFace_of_selects (args := #[]) (mvT hZ (hw _ (List.mem_of_getElem? (i := 29) rfl)))) (hw _ (List.mem_of_getElem? (i := 29) rfl)) (hw _ (List.mem_of_getElem? (i := 28) rfl)) (hw _ (List.mem_of_getElem? (i := 2) rfl)) (hw _ (List.mem_of_getElem? (i := 30) rfl)) (by decide) (rm6 l Z aw hw b2 b2 q0 q1 q0 q1 T5.heap n0 ZKq5 Pq3_1 Pq3_2 Pq3_1 Pq3_2) Pq3_0 (g := (mkF m 216 #[.val (.long q0), .second, .val (.long q1), .second, .val (.long q2), .second, .val (.long q3), .second, .val (.int p4), .val (.long q0), .second, .val (.long q1), .second, .val (.long tb), .second, .val (.long ob), .second, .val (.int ms), .val (.int ns), .val (.ref b2), .val (.ref b4), .val (.int (0 : Int32)), .val (.int (0 : Int32))] [(.ref b2), (.ref b2)])) rfl (by rw [hml]; rfl) (argsL := [(.ref b2)]) (rest := []) (lenOf pd_4 rfl) rfl rfl (W := 0) (by show 2 * 0 + _ ≤ _; exact Nat.le_of_eq rfl) (hb hby at_216) (by decide) (by decide) (by decide) (by decide) ?_
          intro T45 X45 e45
          refine own_go (T' := T45) (f' := (mkF m 227 #[.val (.long q0), .second, .val (.long q1), .second, .val (.long q2), .second, .val (.long q3), .second, .val (.int p4), .val (.long q0), .second, .val (.long q1), .second, .val (.long tb), .second, .val (.long ob), .second, .val (.int ms), .val (.int ns), .val (.ref b2), .val (.ref b4), .val (.int (0 : Int32)), .val (.int (0 : Int32))] [(.int (1 : Int32))])) (fun t kt => ?_) ?_
          · show Steps p.tables e below (T45.setTop (mkF m 219 #[.val (.long q0), .second, .val (.long q1), .second, .val (.long q2), .second, .val (.long q3), .second, .val (.int p4), .val (.long q0), .second, .val (.long q1), .second, .val (.long tb), .second, .val (.long ob), .second, .val (.int ms), .val (.int ns), .val (.ref b2), .val (.ref b4), .val (.int (0 : Int32)), .val (.int (0 : Int32))] [(.int (own_z (q0 < q0 ∧ q1 < q1)))])) t
            refine XS.ifNo X45.here hx rfl (hb hby at_219) rfl (own_zN_ne (show ¬ ((q0 < q0 ∧ q1 < q1)) from fun h => Int64.lt_irrefl h.1)) ?_
            show Steps p.tables e below (T45.setTop (mkF m 222 #[.val (.long q0), .second, .val (.long q1), .second, .val (.long q2), .second, .val (.long q3), .second, .val (.int p4), .val (.long q0), .second, .val (.long q1), .second, .val (.long tb), .second, .val (.long ob), .second, .val (.int ms), .val (.int ns), .val (.ref b2), .val (.ref b4), .val (.int (0 : Int32)), .val (.int (0 : Int32))] [])) t
            refine XS.iconst X45.here hx rfl (hb hby at_222) ?_
            show Steps p.tables e below (T45.setTop (mkF m 223 #[.val (.long q0), .second, .val (.long q1), .second, .val (.long q2), .second, .val (.long q3), .second, .val (.int p4), .val (.long q0), .second, .val (.long q1), .second, .val (.long tb), .second, .val (.long ob), .second, .val (.int ms), .val (.int ns), .val (.ref b2), .val (.ref b4), .val (.int (0 : Int32)), .val (.int (0 : Int32))] [(.int (1 : Int32))])) t
            refine XS.goto X45.here hx rfl (pc0 := 223) (pc' := 227) rfl (hb hby at_223) (by decide) (by decide) ?_
            show Steps p.tables e below (T45.setTop (mkF m 227 #[.val (.long q0), .second, .val (.long q1), .second, .val (.long q2), .second, .val (.long q3), .second, .val (.int p4), .val (.long q0), .second, .val (.long q1), .second, .val (.long tb), .second, .val (.long ob), .second, .val (.int ms), .val (.int ns), .val (.ref b2), .val (.ref b4), .val (.int (0 : Int32)), .val (.int (0 : Int32))] [(.int (1 : Int32))])) t
            exact kt
          exact own_retN X45 hP hx hlk e45 (t := .boolean) hret (by simp) (hb hby at_227) (by decide) (by decide) (z' := (1 : Int32)) rfl ⟨rfl, N5⟩
      · refine own_go (T' := T36) (f' := (mkF m 192 #[.val (.long q0), .second, .val (.long q1), .second, .val (.long q2), .second, .val (.long q3), .second, .val (.int p4), .val (.long q0), .second, .val (.long q1), .second, .val (.long tb), .second, .val (.long ob), .second, .val (.int ms), .val (.int ns), .val (.ref b2), .val (.ref b4), .val (.int (0 : Int32)), .val (.int (0 : Int32))] [(.ref b2), (.ref b4)])) (fun t kt => ?_) ?_
        · show Steps p.tables e below (T36.setTop (mkF m 168 #[.val (.long q0), .second, .val (.long q1), .second, .val (.long q2), .second, .val (.long q3), .second, .val (.int p4), .val (.long q0), .second, .val (.long q1), .second, .val (.long tb), .second, .val (.long ob), .second, .val (.int ms), .val (.int ns), .val (.ref b2), .val (.ref b4), .val (.int (0 : Int32)), .unset] [(.int (own_z (tb < q0)))])) t
          refine XS.ifYes X36.here hx rfl (pc0 := 168) (pc' := 185) rfl (hb hby at_168) rfl (own_zY_eq hc168_37) (by decide) (by decide) ?_
          show Steps p.tables e below (T36.setTop (mkF m 185 #[.val (.long q0), .second, .val (.long q1), .second, .val (.long q2), .second, .val (.long q3), .second, .val (.int p4), .val (.long q0), .second, .val (.long q1), .second, .val (.long tb), .second, .val (.long ob), .second, .val (.int ms), .val (.int ns), .val (.ref b2), .val (.ref b4), .val (.int (0 : Int32)), .unset] [])) t
          refine XS.iconst X36.here hx rfl (hb hby at_185) ?_
          show Steps p.tables e below (T36.setTop (mkF m 186 #[.val (.long q0), .second, .val (.long q1), .second, .val (.long q2), .second, .val (.long q3), .second, .val (.int p4), .val (.long q0), .second, .val (.long q1), .second, .val (.long tb), .second, .val (.long ob), .second, .val (.int ms), .val (.int ns), .val (.ref b2), .val (.ref b4), .val (.int (0 : Int32)), .unset] [(.int (0 : Int32))])) t
          refine XS.istore X36.here hx rfl (hb hby at_186) rfl (l' := #[.val (.long q0), .second, .val (.long q1), .second, .val (.long q2), .second, .val (.long q3), .second, .val (.int p4), .val (.long q0), .second, .val (.long q1), .second, .val (.long tb), .second, .val (.long ob), .second, .val (.int ms), .val (.int ns), .val (.ref b2), .val (.ref b4), .val (.int (0 : Int32)), .val (.int (0 : Int32))]) rfl ?_
          show Steps p.tables e below (T36.setTop (mkF m 188 #[.val (.long q0), .second, .val (.long q1), .second, .val (.long q2), .second, .val (.long q3), .second, .val (.int p4), .val (.long q0), .second, .val (.long q1), .second, .val (.long tb), .second, .val (.long ob), .second, .val (.int ms), .val (.int ns), .val (.ref b2), .val (.ref b4), .val (.int (0 : Int32)), .val (.int (0 : Int32))] [])) t
          refine XS.aload X36.here hx rfl (hb hby at_188) rfl rfl ?_
          show Steps p.tables e below (T36.setTop (mkF m 190 #[.val (.long q0), .second, .val (.long q1), .second, .val (.long q2), .second, .val (.long q3), .second, .val (.int p4), .val (.long q0), .second, .val (.long q1), .second, .val (.long tb), .second, .val (.long ob), .second, .val (.int ms), .val (.int ns), .val (.ref b2), .val (.ref b4), .val (.int (0 : Int32)), .val (.int (0 : Int32))] [(.ref b4)])) t
          refine XS.aload X36.here hx rfl (hb hby at_190) rfl rfl ?_
          show Steps p.tables e below (T36.setTop (mkF m 192 #[.val (.long q0), .second, .val (.long q1), .second, .val (.long q2), .second, .val (.long q3), .second, .val (.int p4), .val (.long q0), .second, .val (.long q1), .second, .val (.long tb), .second, .val (.long ob), .second, .val (.int ms), .val (.int ns), .val (.ref b2), .val (.ref b4), .val (.int (0 : Int32)), .val (.int (0 : Int32))] [(.ref b2), (.ref b4)])) t
          exact kt
        refine own_callVp X36 hx hZ hown e36 (hw _ (List.mem_of_getElem? (i := 26) rfl)) (hw _ (List.mem_of_getElem? (i := 27) rfl)) (notFace_of_selects (args := #[]) (mvT hZ (hw _ (List.mem_of_getElem? (i := 29) rfl)))) (hw _ (List.mem_of_getElem? (i := 29) rfl)) (hw _ (List.mem_of_getElem? (i := 28) rfl)) (hw _ (List.mem_of_getElem? (i := 2) rfl)) (hw _ (List.mem_of_getElem? (i := 30) rfl)) (by decide) (rm6 l Z aw hw b4 b2 tb ob q0 q1 T5.heap n0 ZKq5 Pq5_1 Pq5_2 Pq3_1 Pq3_2) Pq5_0 (g := (mkF m 192 #[.val (.long q0), .second, .val (.long q1), .second, .val (.long q2), .second, .val (.long q3), .second, .val (.int p4), .val (.long q0), .second, .val (.long q1), .second, .val (.long tb), .second, .val (.long ob), .second, .val (.int ms), .val (.int ns), .val (.ref b2), .val (.ref b4), .val (.int (0 : Int32)), .val (.int (0 : Int32))] [(.ref b2), (.ref b4)])) rfl (by rw [hml]; rfl) (argsL := [(.ref b2)]) (rest := []) (lenOf pd_4 rfl) rfl rfl (W := 0) (by show 2 * 0 + _ ≤ _; exact Nat.le_of_eq rfl) (hb hby at_192) (by decide) (by decide) (by decide) (by decide) ?_
        intro T46 X46 e46
        refine own_go (T' := T46) (f' := (mkF m 204 #[.val (.long q0), .second, .val (.long q1), .second, .val (.long q2), .second, .val (.long q3), .second, .val (.int p4), .val (.long q0), .second, .val (.long q1), .second, .val (.long tb), .second, .val (.long ob), .second, .val (.int ms), .val (.int ns), .val (.ref b2), .val (.ref b4), .val (.int (0 : Int32)), .val (.int (0 : Int32))] [(.ref b4), (.ref b2)])) (fun t kt => ?_) ?_
        · show Steps p.tables e below (T46.setTop (mkF m 195 #[.val (.long q0), .second, .val (.long q1), .second, .val (.long q2), .second, .val (.long q3), .second, .val (.int p4), .val (.long q0), .second, .val (.long q1), .second, .val (.long tb), .second, .val (.long ob), .second, .val (.int ms), .val (.int ns), .val (.ref b2), .val (.ref b4), .val (.int (0 : Int32)), .val (.int (0 : Int32))] [(.int (own_z (q0 < tb ∧ q1 < ob)))])) t
          refine XS.iload X46.here hx rfl (hb hby at_195) rfl ?_
          show Steps p.tables e below (T46.setTop (mkF m 197 #[.val (.long q0), .second, .val (.long q1), .second, .val (.long q2), .second, .val (.long q3), .second, .val (.int p4), .val (.long q0), .second, .val (.long q1), .second, .val (.long tb), .second, .val (.long ob), .second, .val (.int ms), .val (.int ns), .val (.ref b2), .val (.ref b4), .val (.int (0 : Int32)), .val (.int (0 : Int32))] [(.int (0 : Int32)), (.int (own_z (q0 < tb ∧ q1 < ob)))])) t
          refine XS.icmpNo X46.here hx rfl (hb hby at_197) rfl (teq (show (own_z (q0 < tb ∧ q1 < ob)) = (0 : Int32) from own_z_f (fun h => hc141_7 h.1))).2 ?_
          show Steps p.tables e below (T46.setTop (mkF m 200 #[.val (.long q0), .second, .val (.long q1), .second, .val (.long q2), .second, .val (.long q3), .second, .val (.int p4), .val (.long q0), .second, .val (.long q1), .second, .val (.long tb), .second, .val (.long ob), .second, .val (.int ms), .val (.int ns), .val (.ref b2), .val (.ref b4), .val (.int (0 : Int32)), .val (.int (0 : Int32))] [])) t
          refine XS.aload X46.here hx rfl (hb hby at_200) rfl rfl ?_
          show Steps p.tables e below (T46.setTop (mkF m 202 #[.val (.long q0), .second, .val (.long q1), .second, .val (.long q2), .second, .val (.long q3), .second, .val (.int p4), .val (.long q0), .second, .val (.long q1), .second, .val (.long tb), .second, .val (.long ob), .second, .val (.int ms), .val (.int ns), .val (.ref b2), .val (.ref b4), .val (.int (0 : Int32)), .val (.int (0 : Int32))] [(.ref b2)])) t
          refine XS.aload X46.here hx rfl (hb hby at_202) rfl rfl ?_
          show Steps p.tables e below (T46.setTop (mkF m 204 #[.val (.long q0), .second, .val (.long q1), .second, .val (.long q2), .second, .val (.long q3), .second, .val (.int p4), .val (.long q0), .second, .val (.long q1), .second, .val (.long tb), .second, .val (.long ob), .second, .val (.int ms), .val (.int ns), .val (.ref b2), .val (.ref b4), .val (.int (0 : Int32)), .val (.int (0 : Int32))] [(.ref b4), (.ref b2)])) t
          exact kt
        refine own_callVp X46 hx hZ hown e46 (hw _ (List.mem_of_getElem? (i := 26) rfl)) (hw _ (List.mem_of_getElem? (i := 27) rfl)) (notFace_of_selects (args := #[]) (mvT hZ (hw _ (List.mem_of_getElem? (i := 29) rfl)))) (hw _ (List.mem_of_getElem? (i := 29) rfl)) (hw _ (List.mem_of_getElem? (i := 28) rfl)) (hw _ (List.mem_of_getElem? (i := 2) rfl)) (hw _ (List.mem_of_getElem? (i := 30) rfl)) (by decide) (rm6 l Z aw hw b2 b4 q0 q1 tb ob T5.heap n0 ZKq5 Pq3_1 Pq3_2 Pq5_1 Pq5_2) Pq3_0 (g := (mkF m 204 #[.val (.long q0), .second, .val (.long q1), .second, .val (.long q2), .second, .val (.long q3), .second, .val (.int p4), .val (.long q0), .second, .val (.long q1), .second, .val (.long tb), .second, .val (.long ob), .second, .val (.int ms), .val (.int ns), .val (.ref b2), .val (.ref b4), .val (.int (0 : Int32)), .val (.int (0 : Int32))] [(.ref b4), (.ref b2)])) rfl (by rw [hml]; rfl) (argsL := [(.ref b4)]) (rest := []) (lenOf pd_4 rfl) rfl rfl (W := 0) (by show 2 * 0 + _ ≤ _; exact Nat.le_of_eq rfl) (hb hby at_204) (by decide) (by decide) (by decide) (by decide) ?_
        intro T47 X47 e47
        refine own_go (T' := T47) (f' := (mkF m 216 #[.val (.long q0), .second, .val (.long q1), .second, .val (.long q2), .second, .val (.long q3), .second, .val (.int p4), .val (.long q0), .second, .val (.long q1), .second, .val (.long tb), .second, .val (.long ob), .second, .val (.int ms), .val (.int ns), .val (.ref b2), .val (.ref b4), .val (.int (0 : Int32)), .val (.int (0 : Int32))] [(.ref b2), (.ref b2)])) (fun t kt => ?_) ?_
        · show Steps p.tables e below (T47.setTop (mkF m 207 #[.val (.long q0), .second, .val (.long q1), .second, .val (.long q2), .second, .val (.long q3), .second, .val (.int p4), .val (.long q0), .second, .val (.long q1), .second, .val (.long tb), .second, .val (.long ob), .second, .val (.int ms), .val (.int ns), .val (.ref b2), .val (.ref b4), .val (.int (0 : Int32)), .val (.int (0 : Int32))] [(.int (own_z (tb < q0 ∧ ob < q1)))])) t
          refine XS.iload X47.here hx rfl (hb hby at_207) rfl ?_
          show Steps p.tables e below (T47.setTop (mkF m 209 #[.val (.long q0), .second, .val (.long q1), .second, .val (.long q2), .second, .val (.long q3), .second, .val (.int p4), .val (.long q0), .second, .val (.long q1), .second, .val (.long tb), .second, .val (.long ob), .second, .val (.int ms), .val (.int ns), .val (.ref b2), .val (.ref b4), .val (.int (0 : Int32)), .val (.int (0 : Int32))] [(.int (0 : Int32)), (.int (own_z (tb < q0 ∧ ob < q1)))])) t
          refine XS.icmpNo X47.here hx rfl (hb hby at_209) rfl (teq (show (own_z (tb < q0 ∧ ob < q1)) = (0 : Int32) from own_z_f (fun h => hc168_37 h.1))).2 ?_
          show Steps p.tables e below (T47.setTop (mkF m 212 #[.val (.long q0), .second, .val (.long q1), .second, .val (.long q2), .second, .val (.long q3), .second, .val (.int p4), .val (.long q0), .second, .val (.long q1), .second, .val (.long tb), .second, .val (.long ob), .second, .val (.int ms), .val (.int ns), .val (.ref b2), .val (.ref b4), .val (.int (0 : Int32)), .val (.int (0 : Int32))] [])) t
          refine XS.aload X47.here hx rfl (hb hby at_212) rfl rfl ?_
          show Steps p.tables e below (T47.setTop (mkF m 214 #[.val (.long q0), .second, .val (.long q1), .second, .val (.long q2), .second, .val (.long q3), .second, .val (.int p4), .val (.long q0), .second, .val (.long q1), .second, .val (.long tb), .second, .val (.long ob), .second, .val (.int ms), .val (.int ns), .val (.ref b2), .val (.ref b4), .val (.int (0 : Int32)), .val (.int (0 : Int32))] [(.ref b2)])) t
          refine XS.aload X47.here hx rfl (hb hby at_214) rfl rfl ?_
          show Steps p.tables e below (T47.setTop (mkF m 216 #[.val (.long q0), .second, .val (.long q1), .second, .val (.long q2), .second, .val (.long q3), .second, .val (.int p4), .val (.long q0), .second, .val (.long q1), .second, .val (.long tb), .second, .val (.long ob), .second, .val (.int ms), .val (.int ns), .val (.ref b2), .val (.ref b4), .val (.int (0 : Int32)), .val (.int (0 : Int32))] [(.ref b2), (.ref b2)])) t
          exact kt
        refine own_callVp X47 hx hZ hown e47 (hw _ (List.mem_of_getElem? (i := 26) rfl)) (hw _ (List.mem_of_getElem? (i := 27) rfl)) (notFace_of_selects (args := #[]) (mvT hZ (hw _ (List.mem_of_getElem? (i := 29) rfl)))) (hw _ (List.mem_of_getElem? (i := 29) rfl)) (hw _ (List.mem_of_getElem? (i := 28) rfl)) (hw _ (List.mem_of_getElem? (i := 2) rfl)) (hw _ (List.mem_of_getElem? (i := 30) rfl)) (by decide) (rm6 l Z aw hw b2 b2 q0 q1 q0 q1 T5.heap n0 ZKq5 Pq3_1 Pq3_2 Pq3_1 Pq3_2) Pq3_0 (g := (mkF m 216 #[.val (.long q0), .second, .val (.long q1), .second, .val (.long q2), .second, .val (.long q3), .second, .val (.int p4), .val (.long q0), .second, .val (.long q1), .second, .val (.long tb), .second, .val (.long ob), .second, .val (.int ms), .val (.int ns), .val (.ref b2), .val (.ref b4), .val (.int (0 : Int32)), .val (.int (0 : Int32))] [(.ref b2), (.ref b2)])) rfl (by rw [hml]; rfl) (argsL := [(.ref b2)]) (rest := []) (lenOf pd_4 rfl) rfl rfl (W := 0) (by show 2 * 0 + _ ≤ _; exact Nat.le_of_eq rfl) (hb hby at_216) (by decide) (by decide) (by decide) (by decide) ?_
        intro T48 X48 e48
        refine own_go (T' := T48) (f' := (mkF m 227 #[.val (.long q0), .second, .val (.long q1), .second, .val (.long q2), .second, .val (.long q3), .second, .val (.int p4), .val (.long q0), .second, .val (.long q1), .second, .val (.long tb), .second, .val (.long ob), .second, .val (.int ms), .val (.int ns), .val (.ref b2), .val (.ref b4), .val (.int (0 : Int32)), .val (.int (0 : Int32))] [(.int (1 : Int32))])) (fun t kt => ?_) ?_
        · show Steps p.tables e below (T48.setTop (mkF m 219 #[.val (.long q0), .second, .val (.long q1), .second, .val (.long q2), .second, .val (.long q3), .second, .val (.int p4), .val (.long q0), .second, .val (.long q1), .second, .val (.long tb), .second, .val (.long ob), .second, .val (.int ms), .val (.int ns), .val (.ref b2), .val (.ref b4), .val (.int (0 : Int32)), .val (.int (0 : Int32))] [(.int (own_z (q0 < q0 ∧ q1 < q1)))])) t
          refine XS.ifNo X48.here hx rfl (hb hby at_219) rfl (own_zN_ne (show ¬ ((q0 < q0 ∧ q1 < q1)) from fun h => Int64.lt_irrefl h.1)) ?_
          show Steps p.tables e below (T48.setTop (mkF m 222 #[.val (.long q0), .second, .val (.long q1), .second, .val (.long q2), .second, .val (.long q3), .second, .val (.int p4), .val (.long q0), .second, .val (.long q1), .second, .val (.long tb), .second, .val (.long ob), .second, .val (.int ms), .val (.int ns), .val (.ref b2), .val (.ref b4), .val (.int (0 : Int32)), .val (.int (0 : Int32))] [])) t
          refine XS.iconst X48.here hx rfl (hb hby at_222) ?_
          show Steps p.tables e below (T48.setTop (mkF m 223 #[.val (.long q0), .second, .val (.long q1), .second, .val (.long q2), .second, .val (.long q3), .second, .val (.int p4), .val (.long q0), .second, .val (.long q1), .second, .val (.long tb), .second, .val (.long ob), .second, .val (.int ms), .val (.int ns), .val (.ref b2), .val (.ref b4), .val (.int (0 : Int32)), .val (.int (0 : Int32))] [(.int (1 : Int32))])) t
          refine XS.goto X48.here hx rfl (pc0 := 223) (pc' := 227) rfl (hb hby at_223) (by decide) (by decide) ?_
          show Steps p.tables e below (T48.setTop (mkF m 227 #[.val (.long q0), .second, .val (.long q1), .second, .val (.long q2), .second, .val (.long q3), .second, .val (.int p4), .val (.long q0), .second, .val (.long q1), .second, .val (.long tb), .second, .val (.long ob), .second, .val (.int ms), .val (.int ns), .val (.ref b2), .val (.ref b4), .val (.int (0 : Int32)), .val (.int (0 : Int32))] [(.int (1 : Int32))])) t
          exact kt
        exact own_retN X48 hP hx hlk e48 (t := .boolean) hret (by simp) (hb hby at_227) (by decide) (by decide) (z' := (1 : Int32)) rfl ⟨rfl, N5⟩
  have J68 : ∀ (Tj49 : State) (lj49 : List Loc) (tb : Int64) (Xj49 : Stand p l e room_1 s m #[(.long q0), (.long q1), (.long q2), (.long q3), (.int p4)] below meth c Tj49 lj49 0 0) (Nj49 : Fr n0 lj49) (ej49 : Tj49.heap = h0), own_End p e below P Tj49 (mkF m 68 #[.val (.long q0), .second, .val (.long q1), .second, .val (.long q2), .second, .val (.long q3), .second, .val (.int p4), .val (.long q0), .second, .val (.long q1), .second, .val (.long tb), .second, .val (.long q3), .second, .val (.int ms), .val (.int ns), .unset, .unset, .unset, .unset] []) := by
    intro Tj49 lj49 tb Xj49 Nj49 ej49
    refine own_go (T' := Tj49) (f' := (mkF m 71 #[.val (.long q0), .second, .val (.long q1), .second, .val (.long q2), .second, .val (.long q3), .second, .val (.int p4), .val (.long q0), .second, .val (.long q1), .second, .val (.long tb), .second, .val (.long q3), .second, .val (.int ms), .val (.int ns), .unset, .unset, .unset, .unset] [(.int (1 : Int32)), (.int ns)])) (fun t kt => ?_) ?_
    · show Steps p.tables e below (Tj49.setTop (mkF m 68 #[.val (.long q0), .second, .val (.long q1), .second, .val (.long q2), .second, .val (.long q3), .second, .val (.int p4), .val (.long q0), .second, .val (.long q1), .second, .val (.long tb), .second, .val (.long q3), .second, .val (.int ms), .val (.int ns), .unset, .unset, .unset, .unset] [])) t
      refine XS.iload Xj49.here hx rfl (hb hby at_68) rfl ?_
      show Steps p.tables e below (Tj49.setTop (mkF m 70 #[.val (.long q0), .second, .val (.long q1), .second, .val (.long q2), .second, .val (.long q3), .second, .val (.int p4), .val (.long q0), .second, .val (.long q1), .second, .val (.long tb), .second, .val (.long q3), .second, .val (.int ms), .val (.int ns), .unset, .unset, .unset, .unset] [(.int ns)])) t
      refine XS.iconst Xj49.here hx rfl (hb hby at_70) ?_
      show Steps p.tables e below (Tj49.setTop (mkF m 71 #[.val (.long q0), .second, .val (.long q1), .second, .val (.long q2), .second, .val (.long q3), .second, .val (.int p4), .val (.long q0), .second, .val (.long q1), .second, .val (.long tb), .second, .val (.long q3), .second, .val (.int ms), .val (.int ns), .unset, .unset, .unset, .unset] [(.int (1 : Int32)), (.int ns)])) t
      exact kt
    by_cases hc71_50 : ns = (1 : Int32)
    · refine own_go (T' := Tj49) (f' := (mkF m 108 #[.val (.long q0), .second, .val (.long q1), .second, .val (.long q2), .second, .val (.long q3), .second, .val (.int p4), .val (.long q0), .second, .val (.long q1), .second, .val (.long tb), .second, .val (.long q1), .second, .val (.int ms), .val (.int ns), .unset, .unset, .unset, .unset] [])) (fun t kt => ?_) ?_
      · show Steps p.tables e below (Tj49.setTop (mkF m 71 #[.val (.long q0), .second, .val (.long q1), .second, .val (.long q2), .second, .val (.long q3), .second, .val (.int p4), .val (.long q0), .second, .val (.long q1), .second, .val (.long tb), .second, .val (.long q3), .second, .val (.int ms), .val (.int ns), .unset, .unset, .unset, .unset] [(.int (1 : Int32)), (.int ns)])) t
        refine XS.icmpNo Xj49.here hx rfl (hb hby at_71) rfl (teq hc71_50).2 ?_
        show Steps p.tables e below (Tj49.setTop (mkF m 74 #[.val (.long q0), .second, .val (.long q1), .second, .val (.long q2), .second, .val (.long q3), .second, .val (.int p4), .val (.long q0), .second, .val (.long q1), .second, .val (.long tb), .second, .val (.long q3), .second, .val (.int ms), .val (.int ns), .unset, .unset, .unset, .unset] [])) t
        refine XS.lload Xj49.here hx rfl (hb hby at_74) rfl ?_
        show Steps p.tables e below (Tj49.setTop (mkF m 76 #[.val (.long q0), .second, .val (.long q1), .second, .val (.long q2), .second, .val (.long q3), .second, .val (.int p4), .val (.long q0), .second, .val (.long q1), .second, .val (.long tb), .second, .val (.long q3), .second, .val (.int ms), .val (.int ns), .unset, .unset, .unset, .unset] [(.long q1)])) t
        refine XS.lstore Xj49.here hx rfl (hb hby at_76) rfl (l' := #[.val (.long q0), .second, .val (.long q1), .second, .val (.long q2), .second, .val (.long q3), .second, .val (.int p4), .val (.long q0), .second, .val (.long q1), .second, .val (.long tb), .second, .val (.long q1), .second, .val (.int ms), .val (.int ns), .unset, .unset, .unset, .unset]) rfl ?_
        show Steps p.tables e below (Tj49.setTop (mkF m 78 #[.val (.long q0), .second, .val (.long q1), .second, .val (.long q2), .second, .val (.long q3), .second, .val (.int p4), .val (.long q0), .second, .val (.long q1), .second, .val (.long tb), .second, .val (.long q1), .second, .val (.int ms), .val (.int ns), .unset, .unset, .unset, .unset] [])) t
        refine XS.goto Xj49.here hx rfl (pc0 := 78) (pc' := 108) rfl (hb hby at_78) (by decide) (by decide) ?_
        show Steps p.tables e below (Tj49.setTop (mkF m 108 #[.val (.long q0), .second, .val (.long q1), .second, .val (.long q2), .second, .val (.long q3), .second, .val (.int p4), .val (.long q0), .second, .val (.long q1), .second, .val (.long tb), .second, .val (.long q1), .second, .val (.int ms), .val (.int ns), .unset, .unset, .unset, .unset] [])) t
        exact kt
      exact J108 Tj49 _ tb q1 Xj49 Nj49 ej49
    · refine own_go (T' := Tj49) (f' := (mkF m 84 #[.val (.long q0), .second, .val (.long q1), .second, .val (.long q2), .second, .val (.long q3), .second, .val (.int p4), .val (.long q0), .second, .val (.long q1), .second, .val (.long tb), .second, .val (.long q3), .second, .val (.int ms), .val (.int ns), .unset, .unset, .unset, .unset] [(.int (2 : Int32)), (.int ns)])) (fun t kt => ?_) ?_
      · show Steps p.tables e below (Tj49.setTop (mkF m 71 #[.val (.long q0), .second, .val (.long q1), .second, .val (.long q2), .second, .val (.long q3), .second, .val (.int p4), .val (.long q0), .second, .val (.long q1), .second, .val (.long tb), .second, .val (.long q3), .second, .val (.int ms), .val (.int ns), .unset, .unset, .unset, .unset] [(.int (1 : Int32)), (.int ns)])) t
        refine XS.icmpYes Xj49.here hx rfl (pc0 := 71) (pc' := 81) rfl (hb hby at_71) rfl (feq hc71_50).2 (by decide) (by decide) ?_
        show Steps p.tables e below (Tj49.setTop (mkF m 81 #[.val (.long q0), .second, .val (.long q1), .second, .val (.long q2), .second, .val (.long q3), .second, .val (.int p4), .val (.long q0), .second, .val (.long q1), .second, .val (.long tb), .second, .val (.long q3), .second, .val (.int ms), .val (.int ns), .unset, .unset, .unset, .unset] [])) t
        refine XS.iload Xj49.here hx rfl (hb hby at_81) rfl ?_
        show Steps p.tables e below (Tj49.setTop (mkF m 83 #[.val (.long q0), .second, .val (.long q1), .second, .val (.long q2), .second, .val (.long q3), .second, .val (.int p4), .val (.long q0), .second, .val (.long q1), .second, .val (.long tb), .second, .val (.long q3), .second, .val (.int ms), .val (.int ns), .unset, .unset, .unset, .unset] [(.int ns)])) t
        refine XS.iconst Xj49.here hx rfl (hb hby at_83) ?_
        show Steps p.tables e below (Tj49.setTop (mkF m 84 #[.val (.long q0), .second, .val (.long q1), .second, .val (.long q2), .second, .val (.long q3), .second, .val (.int p4), .val (.long q0), .second, .val (.long q1), .second, .val (.long tb), .second, .val (.long q3), .second, .val (.int ms), .val (.int ns), .unset, .unset, .unset, .unset] [(.int (2 : Int32)), (.int ns)])) t
        exact kt
      by_cases hc84_51 : ns = (2 : Int32)
      · refine own_go (T' := Tj49) (f' := (mkF m 108 #[.val (.long q0), .second, .val (.long q1), .second, .val (.long q2), .second, .val (.long q3), .second, .val (.int p4), .val (.long q0), .second, .val (.long q1), .second, .val (.long tb), .second, .val (.long (q1 + (1 : Int64))), .second, .val (.int ms), .val (.int ns), .unset, .unset, .unset, .unset] [])) (fun t kt => ?_) ?_
        · show Steps p.tables e below (Tj49.setTop (mkF m 84 #[.val (.long q0), .second, .val (.long q1), .second, .val (.long q2), .second, .val (.long q3), .second, .val (.int p4), .val (.long q0), .second, .val (.long q1), .second, .val (.long tb), .second, .val (.long q3), .second, .val (.int ms), .val (.int ns), .unset, .unset, .unset, .unset] [(.int (2 : Int32)), (.int ns)])) t
          refine XS.icmpNo Xj49.here hx rfl (hb hby at_84) rfl (teq hc84_51).2 ?_
          show Steps p.tables e below (Tj49.setTop (mkF m 87 #[.val (.long q0), .second, .val (.long q1), .second, .val (.long q2), .second, .val (.long q3), .second, .val (.int p4), .val (.long q0), .second, .val (.long q1), .second, .val (.long tb), .second, .val (.long q3), .second, .val (.int ms), .val (.int ns), .unset, .unset, .unset, .unset] [])) t
          refine XS.lload Xj49.here hx rfl (hb hby at_87) rfl ?_
          show Steps p.tables e below (Tj49.setTop (mkF m 89 #[.val (.long q0), .second, .val (.long q1), .second, .val (.long q2), .second, .val (.long q3), .second, .val (.int p4), .val (.long q0), .second, .val (.long q1), .second, .val (.long tb), .second, .val (.long q3), .second, .val (.int ms), .val (.int ns), .unset, .unset, .unset, .unset] [(.long q1)])) t
          refine XS.lconst Xj49.here hx rfl (hb hby at_89) ?_
          show Steps p.tables e below (Tj49.setTop (mkF m 90 #[.val (.long q0), .second, .val (.long q1), .second, .val (.long q2), .second, .val (.long q3), .second, .val (.int p4), .val (.long q0), .second, .val (.long q1), .second, .val (.long tb), .second, .val (.long q3), .second, .val (.int ms), .val (.int ns), .unset, .unset, .unset, .unset] [(.long (1 : Int64)), (.long q1)])) t
          refine XS.ladd Xj49.here hx rfl (hb hby at_90) rfl ?_
          show Steps p.tables e below (Tj49.setTop (mkF m 91 #[.val (.long q0), .second, .val (.long q1), .second, .val (.long q2), .second, .val (.long q3), .second, .val (.int p4), .val (.long q0), .second, .val (.long q1), .second, .val (.long tb), .second, .val (.long q3), .second, .val (.int ms), .val (.int ns), .unset, .unset, .unset, .unset] [(.long (q1 + (1 : Int64)))])) t
          refine XS.lstore Xj49.here hx rfl (hb hby at_91) rfl (l' := #[.val (.long q0), .second, .val (.long q1), .second, .val (.long q2), .second, .val (.long q3), .second, .val (.int p4), .val (.long q0), .second, .val (.long q1), .second, .val (.long tb), .second, .val (.long (q1 + (1 : Int64))), .second, .val (.int ms), .val (.int ns), .unset, .unset, .unset, .unset]) rfl ?_
          show Steps p.tables e below (Tj49.setTop (mkF m 93 #[.val (.long q0), .second, .val (.long q1), .second, .val (.long q2), .second, .val (.long q3), .second, .val (.int p4), .val (.long q0), .second, .val (.long q1), .second, .val (.long tb), .second, .val (.long (q1 + (1 : Int64))), .second, .val (.int ms), .val (.int ns), .unset, .unset, .unset, .unset] [])) t
          refine XS.goto Xj49.here hx rfl (pc0 := 93) (pc' := 108) rfl (hb hby at_93) (by decide) (by decide) ?_
          show Steps p.tables e below (Tj49.setTop (mkF m 108 #[.val (.long q0), .second, .val (.long q1), .second, .val (.long q2), .second, .val (.long q3), .second, .val (.int p4), .val (.long q0), .second, .val (.long q1), .second, .val (.long tb), .second, .val (.long (q1 + (1 : Int64))), .second, .val (.int ms), .val (.int ns), .unset, .unset, .unset, .unset] [])) t
          exact kt
        exact J108 Tj49 _ tb (q1 + (1 : Int64)) Xj49 Nj49 ej49
      · refine own_go (T' := Tj49) (f' := (mkF m 99 #[.val (.long q0), .second, .val (.long q1), .second, .val (.long q2), .second, .val (.long q3), .second, .val (.int p4), .val (.long q0), .second, .val (.long q1), .second, .val (.long tb), .second, .val (.long q3), .second, .val (.int ms), .val (.int ns), .unset, .unset, .unset, .unset] [(.int (3 : Int32)), (.int ns)])) (fun t kt => ?_) ?_
        · show Steps p.tables e below (Tj49.setTop (mkF m 84 #[.val (.long q0), .second, .val (.long q1), .second, .val (.long q2), .second, .val (.long q3), .second, .val (.int p4), .val (.long q0), .second, .val (.long q1), .second, .val (.long tb), .second, .val (.long q3), .second, .val (.int ms), .val (.int ns), .unset, .unset, .unset, .unset] [(.int (2 : Int32)), (.int ns)])) t
          refine XS.icmpYes Xj49.here hx rfl (pc0 := 84) (pc' := 96) rfl (hb hby at_84) rfl (feq hc84_51).2 (by decide) (by decide) ?_
          show Steps p.tables e below (Tj49.setTop (mkF m 96 #[.val (.long q0), .second, .val (.long q1), .second, .val (.long q2), .second, .val (.long q3), .second, .val (.int p4), .val (.long q0), .second, .val (.long q1), .second, .val (.long tb), .second, .val (.long q3), .second, .val (.int ms), .val (.int ns), .unset, .unset, .unset, .unset] [])) t
          refine XS.iload Xj49.here hx rfl (hb hby at_96) rfl ?_
          show Steps p.tables e below (Tj49.setTop (mkF m 98 #[.val (.long q0), .second, .val (.long q1), .second, .val (.long q2), .second, .val (.long q3), .second, .val (.int p4), .val (.long q0), .second, .val (.long q1), .second, .val (.long tb), .second, .val (.long q3), .second, .val (.int ms), .val (.int ns), .unset, .unset, .unset, .unset] [(.int ns)])) t
          refine XS.iconst Xj49.here hx rfl (hb hby at_98) ?_
          show Steps p.tables e below (Tj49.setTop (mkF m 99 #[.val (.long q0), .second, .val (.long q1), .second, .val (.long q2), .second, .val (.long q3), .second, .val (.int p4), .val (.long q0), .second, .val (.long q1), .second, .val (.long tb), .second, .val (.long q3), .second, .val (.int ms), .val (.int ns), .unset, .unset, .unset, .unset] [(.int (3 : Int32)), (.int ns)])) t
          exact kt
        by_cases hc99_52 : ns = (3 : Int32)
        · refine own_go (T' := Tj49) (f' := (mkF m 108 #[.val (.long q0), .second, .val (.long q1), .second, .val (.long q2), .second, .val (.long q3), .second, .val (.int p4), .val (.long q0), .second, .val (.long q1), .second, .val (.long tb), .second, .val (.long (q1 - (1 : Int64))), .second, .val (.int ms), .val (.int ns), .unset, .unset, .unset, .unset] [])) (fun t kt => ?_) ?_
          · show Steps p.tables e below (Tj49.setTop (mkF m 99 #[.val (.long q0), .second, .val (.long q1), .second, .val (.long q2), .second, .val (.long q3), .second, .val (.int p4), .val (.long q0), .second, .val (.long q1), .second, .val (.long tb), .second, .val (.long q3), .second, .val (.int ms), .val (.int ns), .unset, .unset, .unset, .unset] [(.int (3 : Int32)), (.int ns)])) t
            refine XS.icmpNo Xj49.here hx rfl (hb hby at_99) rfl (teq hc99_52).2 ?_
            show Steps p.tables e below (Tj49.setTop (mkF m 102 #[.val (.long q0), .second, .val (.long q1), .second, .val (.long q2), .second, .val (.long q3), .second, .val (.int p4), .val (.long q0), .second, .val (.long q1), .second, .val (.long tb), .second, .val (.long q3), .second, .val (.int ms), .val (.int ns), .unset, .unset, .unset, .unset] [])) t
            refine XS.lload Xj49.here hx rfl (hb hby at_102) rfl ?_
            show Steps p.tables e below (Tj49.setTop (mkF m 104 #[.val (.long q0), .second, .val (.long q1), .second, .val (.long q2), .second, .val (.long q3), .second, .val (.int p4), .val (.long q0), .second, .val (.long q1), .second, .val (.long tb), .second, .val (.long q3), .second, .val (.int ms), .val (.int ns), .unset, .unset, .unset, .unset] [(.long q1)])) t
            refine XS.lconst Xj49.here hx rfl (hb hby at_104) ?_
            show Steps p.tables e below (Tj49.setTop (mkF m 105 #[.val (.long q0), .second, .val (.long q1), .second, .val (.long q2), .second, .val (.long q3), .second, .val (.int p4), .val (.long q0), .second, .val (.long q1), .second, .val (.long tb), .second, .val (.long q3), .second, .val (.int ms), .val (.int ns), .unset, .unset, .unset, .unset] [(.long (1 : Int64)), (.long q1)])) t
            refine XS.lsub Xj49.here hx rfl (hb hby at_105) rfl ?_
            show Steps p.tables e below (Tj49.setTop (mkF m 106 #[.val (.long q0), .second, .val (.long q1), .second, .val (.long q2), .second, .val (.long q3), .second, .val (.int p4), .val (.long q0), .second, .val (.long q1), .second, .val (.long tb), .second, .val (.long q3), .second, .val (.int ms), .val (.int ns), .unset, .unset, .unset, .unset] [(.long (q1 - (1 : Int64)))])) t
            refine XS.lstore Xj49.here hx rfl (hb hby at_106) rfl (l' := #[.val (.long q0), .second, .val (.long q1), .second, .val (.long q2), .second, .val (.long q3), .second, .val (.int p4), .val (.long q0), .second, .val (.long q1), .second, .val (.long tb), .second, .val (.long (q1 - (1 : Int64))), .second, .val (.int ms), .val (.int ns), .unset, .unset, .unset, .unset]) rfl ?_
            show Steps p.tables e below (Tj49.setTop (mkF m 108 #[.val (.long q0), .second, .val (.long q1), .second, .val (.long q2), .second, .val (.long q3), .second, .val (.int p4), .val (.long q0), .second, .val (.long q1), .second, .val (.long tb), .second, .val (.long (q1 - (1 : Int64))), .second, .val (.int ms), .val (.int ns), .unset, .unset, .unset, .unset] [])) t
            exact kt
          exact J108 Tj49 _ tb (q1 - (1 : Int64)) Xj49 Nj49 ej49
        · refine own_go (T' := Tj49) (f' := (mkF m 108 #[.val (.long q0), .second, .val (.long q1), .second, .val (.long q2), .second, .val (.long q3), .second, .val (.int p4), .val (.long q0), .second, .val (.long q1), .second, .val (.long tb), .second, .val (.long q3), .second, .val (.int ms), .val (.int ns), .unset, .unset, .unset, .unset] [])) (fun t kt => ?_) ?_
          · show Steps p.tables e below (Tj49.setTop (mkF m 99 #[.val (.long q0), .second, .val (.long q1), .second, .val (.long q2), .second, .val (.long q3), .second, .val (.int p4), .val (.long q0), .second, .val (.long q1), .second, .val (.long tb), .second, .val (.long q3), .second, .val (.int ms), .val (.int ns), .unset, .unset, .unset, .unset] [(.int (3 : Int32)), (.int ns)])) t
            refine XS.icmpYes Xj49.here hx rfl (pc0 := 99) (pc' := 108) rfl (hb hby at_99) rfl (feq hc99_52).2 (by decide) (by decide) ?_
            show Steps p.tables e below (Tj49.setTop (mkF m 108 #[.val (.long q0), .second, .val (.long q1), .second, .val (.long q2), .second, .val (.long q3), .second, .val (.int p4), .val (.long q0), .second, .val (.long q1), .second, .val (.long tb), .second, .val (.long q3), .second, .val (.int ms), .val (.int ns), .unset, .unset, .unset, .unset] [])) t
            exact kt
          exact J108 Tj49 _ tb q3 Xj49 Nj49 ej49
  refine own_go (T' := s₁) (f' := (mkF m 31 #[.val (.long q0), .second, .val (.long q1), .second, .val (.long q2), .second, .val (.long q3), .second, .val (.int p4), .val (.long q0), .second, .val (.long q1), .second, .val (.long q2), .second, .val (.long q3), .second, .val (.int ms), .val (.int ns), .unset, .unset, .unset, .unset] [(.int (1 : Int32)), (.int ms)])) (fun t kt => ?_) ?_
  · show Steps p.tables e below (s₁.setTop (mkF m 28 #[.val (.long q0), .second, .val (.long q1), .second, .val (.long q2), .second, .val (.long q3), .second, .val (.int p4), .val (.long q0), .second, .val (.long q1), .second, .val (.long q2), .second, .val (.long q3), .second, .val (.int ms), .val (.int ns), .unset, .unset, .unset, .unset] [])) t
    refine XS.iload X0.here hx rfl (hb hby at_28) rfl ?_
    show Steps p.tables e below (s₁.setTop (mkF m 30 #[.val (.long q0), .second, .val (.long q1), .second, .val (.long q2), .second, .val (.long q3), .second, .val (.int p4), .val (.long q0), .second, .val (.long q1), .second, .val (.long q2), .second, .val (.long q3), .second, .val (.int ms), .val (.int ns), .unset, .unset, .unset, .unset] [(.int ms)])) t
    refine XS.iconst X0.here hx rfl (hb hby at_30) ?_
    show Steps p.tables e below (s₁.setTop (mkF m 31 #[.val (.long q0), .second, .val (.long q1), .second, .val (.long q2), .second, .val (.long q3), .second, .val (.int p4), .val (.long q0), .second, .val (.long q1), .second, .val (.long q2), .second, .val (.long q3), .second, .val (.int ms), .val (.int ns), .unset, .unset, .unset, .unset] [(.int (1 : Int32)), (.int ms)])) t
    exact kt
  by_cases hc31_53 : ms = (1 : Int32)
  · refine own_go (T' := s₁) (f' := (mkF m 68 #[.val (.long q0), .second, .val (.long q1), .second, .val (.long q2), .second, .val (.long q3), .second, .val (.int p4), .val (.long q0), .second, .val (.long q1), .second, .val (.long q0), .second, .val (.long q3), .second, .val (.int ms), .val (.int ns), .unset, .unset, .unset, .unset] [])) (fun t kt => ?_) ?_
    · show Steps p.tables e below (s₁.setTop (mkF m 31 #[.val (.long q0), .second, .val (.long q1), .second, .val (.long q2), .second, .val (.long q3), .second, .val (.int p4), .val (.long q0), .second, .val (.long q1), .second, .val (.long q2), .second, .val (.long q3), .second, .val (.int ms), .val (.int ns), .unset, .unset, .unset, .unset] [(.int (1 : Int32)), (.int ms)])) t
      refine XS.icmpNo X0.here hx rfl (hb hby at_31) rfl (teq hc31_53).2 ?_
      show Steps p.tables e below (s₁.setTop (mkF m 34 #[.val (.long q0), .second, .val (.long q1), .second, .val (.long q2), .second, .val (.long q3), .second, .val (.int p4), .val (.long q0), .second, .val (.long q1), .second, .val (.long q2), .second, .val (.long q3), .second, .val (.int ms), .val (.int ns), .unset, .unset, .unset, .unset] [])) t
      refine XS.lload X0.here hx rfl (hb hby at_34) rfl ?_
      show Steps p.tables e below (s₁.setTop (mkF m 36 #[.val (.long q0), .second, .val (.long q1), .second, .val (.long q2), .second, .val (.long q3), .second, .val (.int p4), .val (.long q0), .second, .val (.long q1), .second, .val (.long q2), .second, .val (.long q3), .second, .val (.int ms), .val (.int ns), .unset, .unset, .unset, .unset] [(.long q0)])) t
      refine XS.lstore X0.here hx rfl (hb hby at_36) rfl (l' := #[.val (.long q0), .second, .val (.long q1), .second, .val (.long q2), .second, .val (.long q3), .second, .val (.int p4), .val (.long q0), .second, .val (.long q1), .second, .val (.long q0), .second, .val (.long q3), .second, .val (.int ms), .val (.int ns), .unset, .unset, .unset, .unset]) rfl ?_
      show Steps p.tables e below (s₁.setTop (mkF m 38 #[.val (.long q0), .second, .val (.long q1), .second, .val (.long q2), .second, .val (.long q3), .second, .val (.int p4), .val (.long q0), .second, .val (.long q1), .second, .val (.long q0), .second, .val (.long q3), .second, .val (.int ms), .val (.int ns), .unset, .unset, .unset, .unset] [])) t
      refine XS.goto X0.here hx rfl (pc0 := 38) (pc' := 68) rfl (hb hby at_38) (by decide) (by decide) ?_
      show Steps p.tables e below (s₁.setTop (mkF m 68 #[.val (.long q0), .second, .val (.long q1), .second, .val (.long q2), .second, .val (.long q3), .second, .val (.int p4), .val (.long q0), .second, .val (.long q1), .second, .val (.long q0), .second, .val (.long q3), .second, .val (.int ms), .val (.int ns), .unset, .unset, .unset, .unset] [])) t
      exact kt
    exact J68 s₁ _ q0 X0 N0 e0
  · refine own_go (T' := s₁) (f' := (mkF m 44 #[.val (.long q0), .second, .val (.long q1), .second, .val (.long q2), .second, .val (.long q3), .second, .val (.int p4), .val (.long q0), .second, .val (.long q1), .second, .val (.long q2), .second, .val (.long q3), .second, .val (.int ms), .val (.int ns), .unset, .unset, .unset, .unset] [(.int (2 : Int32)), (.int ms)])) (fun t kt => ?_) ?_
    · show Steps p.tables e below (s₁.setTop (mkF m 31 #[.val (.long q0), .second, .val (.long q1), .second, .val (.long q2), .second, .val (.long q3), .second, .val (.int p4), .val (.long q0), .second, .val (.long q1), .second, .val (.long q2), .second, .val (.long q3), .second, .val (.int ms), .val (.int ns), .unset, .unset, .unset, .unset] [(.int (1 : Int32)), (.int ms)])) t
      refine XS.icmpYes X0.here hx rfl (pc0 := 31) (pc' := 41) rfl (hb hby at_31) rfl (feq hc31_53).2 (by decide) (by decide) ?_
      show Steps p.tables e below (s₁.setTop (mkF m 41 #[.val (.long q0), .second, .val (.long q1), .second, .val (.long q2), .second, .val (.long q3), .second, .val (.int p4), .val (.long q0), .second, .val (.long q1), .second, .val (.long q2), .second, .val (.long q3), .second, .val (.int ms), .val (.int ns), .unset, .unset, .unset, .unset] [])) t
      refine XS.iload X0.here hx rfl (hb hby at_41) rfl ?_
      show Steps p.tables e below (s₁.setTop (mkF m 43 #[.val (.long q0), .second, .val (.long q1), .second, .val (.long q2), .second, .val (.long q3), .second, .val (.int p4), .val (.long q0), .second, .val (.long q1), .second, .val (.long q2), .second, .val (.long q3), .second, .val (.int ms), .val (.int ns), .unset, .unset, .unset, .unset] [(.int ms)])) t
      refine XS.iconst X0.here hx rfl (hb hby at_43) ?_
      show Steps p.tables e below (s₁.setTop (mkF m 44 #[.val (.long q0), .second, .val (.long q1), .second, .val (.long q2), .second, .val (.long q3), .second, .val (.int p4), .val (.long q0), .second, .val (.long q1), .second, .val (.long q2), .second, .val (.long q3), .second, .val (.int ms), .val (.int ns), .unset, .unset, .unset, .unset] [(.int (2 : Int32)), (.int ms)])) t
      exact kt
    by_cases hc44_54 : ms = (2 : Int32)
    · refine own_go (T' := s₁) (f' := (mkF m 68 #[.val (.long q0), .second, .val (.long q1), .second, .val (.long q2), .second, .val (.long q3), .second, .val (.int p4), .val (.long q0), .second, .val (.long q1), .second, .val (.long (q0 + (1 : Int64))), .second, .val (.long q3), .second, .val (.int ms), .val (.int ns), .unset, .unset, .unset, .unset] [])) (fun t kt => ?_) ?_
      · show Steps p.tables e below (s₁.setTop (mkF m 44 #[.val (.long q0), .second, .val (.long q1), .second, .val (.long q2), .second, .val (.long q3), .second, .val (.int p4), .val (.long q0), .second, .val (.long q1), .second, .val (.long q2), .second, .val (.long q3), .second, .val (.int ms), .val (.int ns), .unset, .unset, .unset, .unset] [(.int (2 : Int32)), (.int ms)])) t
        refine XS.icmpNo X0.here hx rfl (hb hby at_44) rfl (teq hc44_54).2 ?_
        show Steps p.tables e below (s₁.setTop (mkF m 47 #[.val (.long q0), .second, .val (.long q1), .second, .val (.long q2), .second, .val (.long q3), .second, .val (.int p4), .val (.long q0), .second, .val (.long q1), .second, .val (.long q2), .second, .val (.long q3), .second, .val (.int ms), .val (.int ns), .unset, .unset, .unset, .unset] [])) t
        refine XS.lload X0.here hx rfl (hb hby at_47) rfl ?_
        show Steps p.tables e below (s₁.setTop (mkF m 49 #[.val (.long q0), .second, .val (.long q1), .second, .val (.long q2), .second, .val (.long q3), .second, .val (.int p4), .val (.long q0), .second, .val (.long q1), .second, .val (.long q2), .second, .val (.long q3), .second, .val (.int ms), .val (.int ns), .unset, .unset, .unset, .unset] [(.long q0)])) t
        refine XS.lconst X0.here hx rfl (hb hby at_49) ?_
        show Steps p.tables e below (s₁.setTop (mkF m 50 #[.val (.long q0), .second, .val (.long q1), .second, .val (.long q2), .second, .val (.long q3), .second, .val (.int p4), .val (.long q0), .second, .val (.long q1), .second, .val (.long q2), .second, .val (.long q3), .second, .val (.int ms), .val (.int ns), .unset, .unset, .unset, .unset] [(.long (1 : Int64)), (.long q0)])) t
        refine XS.ladd X0.here hx rfl (hb hby at_50) rfl ?_
        show Steps p.tables e below (s₁.setTop (mkF m 51 #[.val (.long q0), .second, .val (.long q1), .second, .val (.long q2), .second, .val (.long q3), .second, .val (.int p4), .val (.long q0), .second, .val (.long q1), .second, .val (.long q2), .second, .val (.long q3), .second, .val (.int ms), .val (.int ns), .unset, .unset, .unset, .unset] [(.long (q0 + (1 : Int64)))])) t
        refine XS.lstore X0.here hx rfl (hb hby at_51) rfl (l' := #[.val (.long q0), .second, .val (.long q1), .second, .val (.long q2), .second, .val (.long q3), .second, .val (.int p4), .val (.long q0), .second, .val (.long q1), .second, .val (.long (q0 + (1 : Int64))), .second, .val (.long q3), .second, .val (.int ms), .val (.int ns), .unset, .unset, .unset, .unset]) rfl ?_
        show Steps p.tables e below (s₁.setTop (mkF m 53 #[.val (.long q0), .second, .val (.long q1), .second, .val (.long q2), .second, .val (.long q3), .second, .val (.int p4), .val (.long q0), .second, .val (.long q1), .second, .val (.long (q0 + (1 : Int64))), .second, .val (.long q3), .second, .val (.int ms), .val (.int ns), .unset, .unset, .unset, .unset] [])) t
        refine XS.goto X0.here hx rfl (pc0 := 53) (pc' := 68) rfl (hb hby at_53) (by decide) (by decide) ?_
        show Steps p.tables e below (s₁.setTop (mkF m 68 #[.val (.long q0), .second, .val (.long q1), .second, .val (.long q2), .second, .val (.long q3), .second, .val (.int p4), .val (.long q0), .second, .val (.long q1), .second, .val (.long (q0 + (1 : Int64))), .second, .val (.long q3), .second, .val (.int ms), .val (.int ns), .unset, .unset, .unset, .unset] [])) t
        exact kt
      exact J68 s₁ _ (q0 + (1 : Int64)) X0 N0 e0
    · refine own_go (T' := s₁) (f' := (mkF m 59 #[.val (.long q0), .second, .val (.long q1), .second, .val (.long q2), .second, .val (.long q3), .second, .val (.int p4), .val (.long q0), .second, .val (.long q1), .second, .val (.long q2), .second, .val (.long q3), .second, .val (.int ms), .val (.int ns), .unset, .unset, .unset, .unset] [(.int (3 : Int32)), (.int ms)])) (fun t kt => ?_) ?_
      · show Steps p.tables e below (s₁.setTop (mkF m 44 #[.val (.long q0), .second, .val (.long q1), .second, .val (.long q2), .second, .val (.long q3), .second, .val (.int p4), .val (.long q0), .second, .val (.long q1), .second, .val (.long q2), .second, .val (.long q3), .second, .val (.int ms), .val (.int ns), .unset, .unset, .unset, .unset] [(.int (2 : Int32)), (.int ms)])) t
        refine XS.icmpYes X0.here hx rfl (pc0 := 44) (pc' := 56) rfl (hb hby at_44) rfl (feq hc44_54).2 (by decide) (by decide) ?_
        show Steps p.tables e below (s₁.setTop (mkF m 56 #[.val (.long q0), .second, .val (.long q1), .second, .val (.long q2), .second, .val (.long q3), .second, .val (.int p4), .val (.long q0), .second, .val (.long q1), .second, .val (.long q2), .second, .val (.long q3), .second, .val (.int ms), .val (.int ns), .unset, .unset, .unset, .unset] [])) t
        refine XS.iload X0.here hx rfl (hb hby at_56) rfl ?_
        show Steps p.tables e below (s₁.setTop (mkF m 58 #[.val (.long q0), .second, .val (.long q1), .second, .val (.long q2), .second, .val (.long q3), .second, .val (.int p4), .val (.long q0), .second, .val (.long q1), .second, .val (.long q2), .second, .val (.long q3), .second, .val (.int ms), .val (.int ns), .unset, .unset, .unset, .unset] [(.int ms)])) t
        refine XS.iconst X0.here hx rfl (hb hby at_58) ?_
        show Steps p.tables e below (s₁.setTop (mkF m 59 #[.val (.long q0), .second, .val (.long q1), .second, .val (.long q2), .second, .val (.long q3), .second, .val (.int p4), .val (.long q0), .second, .val (.long q1), .second, .val (.long q2), .second, .val (.long q3), .second, .val (.int ms), .val (.int ns), .unset, .unset, .unset, .unset] [(.int (3 : Int32)), (.int ms)])) t
        exact kt
      by_cases hc59_55 : ms = (3 : Int32)
      · refine own_go (T' := s₁) (f' := (mkF m 68 #[.val (.long q0), .second, .val (.long q1), .second, .val (.long q2), .second, .val (.long q3), .second, .val (.int p4), .val (.long q0), .second, .val (.long q1), .second, .val (.long (q0 - (1 : Int64))), .second, .val (.long q3), .second, .val (.int ms), .val (.int ns), .unset, .unset, .unset, .unset] [])) (fun t kt => ?_) ?_
        · show Steps p.tables e below (s₁.setTop (mkF m 59 #[.val (.long q0), .second, .val (.long q1), .second, .val (.long q2), .second, .val (.long q3), .second, .val (.int p4), .val (.long q0), .second, .val (.long q1), .second, .val (.long q2), .second, .val (.long q3), .second, .val (.int ms), .val (.int ns), .unset, .unset, .unset, .unset] [(.int (3 : Int32)), (.int ms)])) t
          refine XS.icmpNo X0.here hx rfl (hb hby at_59) rfl (teq hc59_55).2 ?_
          show Steps p.tables e below (s₁.setTop (mkF m 62 #[.val (.long q0), .second, .val (.long q1), .second, .val (.long q2), .second, .val (.long q3), .second, .val (.int p4), .val (.long q0), .second, .val (.long q1), .second, .val (.long q2), .second, .val (.long q3), .second, .val (.int ms), .val (.int ns), .unset, .unset, .unset, .unset] [])) t
          refine XS.lload X0.here hx rfl (hb hby at_62) rfl ?_
          show Steps p.tables e below (s₁.setTop (mkF m 64 #[.val (.long q0), .second, .val (.long q1), .second, .val (.long q2), .second, .val (.long q3), .second, .val (.int p4), .val (.long q0), .second, .val (.long q1), .second, .val (.long q2), .second, .val (.long q3), .second, .val (.int ms), .val (.int ns), .unset, .unset, .unset, .unset] [(.long q0)])) t
          refine XS.lconst X0.here hx rfl (hb hby at_64) ?_
          show Steps p.tables e below (s₁.setTop (mkF m 65 #[.val (.long q0), .second, .val (.long q1), .second, .val (.long q2), .second, .val (.long q3), .second, .val (.int p4), .val (.long q0), .second, .val (.long q1), .second, .val (.long q2), .second, .val (.long q3), .second, .val (.int ms), .val (.int ns), .unset, .unset, .unset, .unset] [(.long (1 : Int64)), (.long q0)])) t
          refine XS.lsub X0.here hx rfl (hb hby at_65) rfl ?_
          show Steps p.tables e below (s₁.setTop (mkF m 66 #[.val (.long q0), .second, .val (.long q1), .second, .val (.long q2), .second, .val (.long q3), .second, .val (.int p4), .val (.long q0), .second, .val (.long q1), .second, .val (.long q2), .second, .val (.long q3), .second, .val (.int ms), .val (.int ns), .unset, .unset, .unset, .unset] [(.long (q0 - (1 : Int64)))])) t
          refine XS.lstore X0.here hx rfl (hb hby at_66) rfl (l' := #[.val (.long q0), .second, .val (.long q1), .second, .val (.long q2), .second, .val (.long q3), .second, .val (.int p4), .val (.long q0), .second, .val (.long q1), .second, .val (.long (q0 - (1 : Int64))), .second, .val (.long q3), .second, .val (.int ms), .val (.int ns), .unset, .unset, .unset, .unset]) rfl ?_
          show Steps p.tables e below (s₁.setTop (mkF m 68 #[.val (.long q0), .second, .val (.long q1), .second, .val (.long q2), .second, .val (.long q3), .second, .val (.int p4), .val (.long q0), .second, .val (.long q1), .second, .val (.long (q0 - (1 : Int64))), .second, .val (.long q3), .second, .val (.int ms), .val (.int ns), .unset, .unset, .unset, .unset] [])) t
          exact kt
        exact J68 s₁ _ (q0 - (1 : Int64)) X0 N0 e0
      · refine own_go (T' := s₁) (f' := (mkF m 68 #[.val (.long q0), .second, .val (.long q1), .second, .val (.long q2), .second, .val (.long q3), .second, .val (.int p4), .val (.long q0), .second, .val (.long q1), .second, .val (.long q2), .second, .val (.long q3), .second, .val (.int ms), .val (.int ns), .unset, .unset, .unset, .unset] [])) (fun t kt => ?_) ?_
        · show Steps p.tables e below (s₁.setTop (mkF m 59 #[.val (.long q0), .second, .val (.long q1), .second, .val (.long q2), .second, .val (.long q3), .second, .val (.int p4), .val (.long q0), .second, .val (.long q1), .second, .val (.long q2), .second, .val (.long q3), .second, .val (.int ms), .val (.int ns), .unset, .unset, .unset, .unset] [(.int (3 : Int32)), (.int ms)])) t
          refine XS.icmpYes X0.here hx rfl (pc0 := 59) (pc' := 68) rfl (hb hby at_59) rfl (feq hc59_55).2 (by decide) (by decide) ?_
          show Steps p.tables e below (s₁.setTop (mkF m 68 #[.val (.long q0), .second, .val (.long q1), .second, .val (.long q2), .second, .val (.long q3), .second, .val (.int p4), .val (.long q0), .second, .val (.long q1), .second, .val (.long q2), .second, .val (.long q3), .second, .val (.int ms), .val (.int ns), .unset, .unset, .unset, .unset] [])) t
          exact kt
        exact J68 s₁ _ q2 X0 N0 e0
set_option maxRecDepth 65536 in
set_option maxHeartbeats 40000000 in
theorem comes_1 {Post : Tables → Env → Array Value → State → Outcome → State → Prop} (hpost : ∀ tb e args s v u, (limb_1_1.after args s (.returned v) u = true ∧ limb_1_2.after args s (.returned v) u = true ∧ True) → FrameEnd s (.returned v) u (Jvm.fieldLocs frame_1_writes args s ++ Jvm.arrayLocs frame_1_arrays args s ++ Jvm.staticLocs frame_1_statics s) 16 128 → Post tb e args s (.returned v) u) :
    ArmFor flags0 classFile x code maxLocals ret World_1 tables_1 room_1 Calls_1 rest_1 Pre_1 Post := by
  intro l hfl _ _ p e ha hc hk s m args below hf hA hF happ hP
  obtain ⟨hcalls, hrest, hpre⟩ := hP
  obtain ⟨-, -, -, hnamed, -, -, -, hat⟩ := (Spec.applies_iff hf).mp happ
  obtain ⟨hg, hn⟩ := and_e (Cond.before_iff.mp (show (Jvm.Cond.and given_1 narrow_1).before args s = true from hpre))
  obtain ⟨k1, k2⟩ := and_e hg
  obtain ⟨k3, k4⟩ := and_e k2
  obtain ⟨k5, k6⟩ := and_e k4
  obtain ⟨k7, k8⟩ := and_e k6
  obtain ⟨k9, k10⟩ := and_e k8
  obtain ⟨w0, w1, w2, w3, w4, rfl⟩ : ∃ w0 w1 w2 w3 w4 : Value, args = #[w0, w1, w2, w3, w4] := by
    have hs : args.size = 5 := by simpa [Cond.value, given_1] using k1
    obtain ⟨L⟩ := args
    match L, hs with
    | [w0, w1, w2, w3, w4], _ => exact ⟨w0, w1, w2, w3, w4, rfl⟩
  have hw := fun d (hd : d ∈ tables_1) => atoms_spec (ws := Jvm.Cond.code x code maxLocals ret :: tables_1) hat d (List.mem_cons_of_mem _ hd)
  obtain ⟨i0, ei0⟩ := isL_v k3
  obtain rfl : w0 = (.long i0) := Option.some.inj ei0
  obtain ⟨i1, ei1⟩ := isL_v k5
  obtain rfl : w1 = (.long i1) := Option.some.inj ei1
  obtain ⟨i2, ei2⟩ := isL_v k7
  obtain rfl : w2 = (.long i2) := Option.some.inj ei2
  obtain ⟨i3, ei3⟩ := isL_v k9
  obtain rfl : w3 = (.long i3) := Option.some.inj ei3
  obtain ⟨i4, ei4⟩ := is_v k10
  obtain rfl : w4 = (.int i4) := Option.some.inj ei4
  obtain ⟨n, o, h1, h2, h3, _, L, rfl, ⟨rfl, N⟩, hq⟩ := rm0 l s _ hw (ws := tables_1) i0 i1 i2 i3 i4 s.heap s.heap.size (Nat.le_refl _)  p e ha hc hk s m _ below hf ((Spec.applies_iff_loose hf).mp happ).1 ⟨rfl, State.Warmed39.refl s, rfl⟩ trivial
  refine ⟨n, _, h1, h2, h3, hpost _ _ _ _ _ _ ⟨Cond.after_iff.mpr rfl, Cond.after_iff.mpr (eq_i res_at (Term.int_eval (1)) rfl), trivial⟩ ⟨hq.1, hq.2.1, (hq.2.2.sift fun y hy => Or.inr (N y hy)).mono (by decide) (by decide)⟩⟩
theorem main_1_1 : Claimed_1_1 := comes_1 fun _ _ _ _ _ _ h hF => ⟨h.1, hF⟩
theorem main_1_2 : Claimed_1_2 := comes_1 fun _ _ _ _ _ _ h hF => ⟨h.2.1, hF⟩
end Jvm.Pilot.@@N@@
namespace Jvm.Pilot.@@N@@
open Jvm Jvm.ClassFile Sem Op Lib Jvm.Free Jvm.Stand Jvm.Pilot.@@N@@.Jvm.D
/-! MADE BY PROGRAM (witnessworld.py) out of the Statement's table words and the real class files: 11 classes; the members and pool entries that the words name. The judged class is class 1, her method 1. -/
namespace start1
open Jvm.ClassFile
def u (s : String) : CpInfo := .utf8 (stringToUtf16 s)
/-- a pool by its gaps: so many unusable entries, then the entry; so many at the end -/
def gap : Nat → List CpInfo → List CpInfo
  | 0, r => r
  | n + 1, r => .unusable :: gap n r
def poolList (es : List (Nat × CpInfo)) (last : Nat) : List CpInfo := es.foldr (fun e r => gap e.1 (e.2 :: r)) (gap last [])
def pool (es : List (Nat × CpInfo)) (last : Nat) : Array CpInfo := ⟨poolList es last⟩
def fileOf (pool : Array CpInfo) (this : Nat) (attrs : Array Attribute := #[]) (ms : Array MethodInfo := #[]) (fl : Nat := 33) (sup : Nat := 0) (ifs : Array Nat := #[]) (fds : Array FieldInfo := #[]) : ClassFile where
  minorVersion := 0
  majorVersion := 65
  constantPool := pool
  accessFlags := fl
  thisClass := this
  superClass := sup
  interfaces := ifs
  fields := fds
  methods := ms
  attributes := attrs
def plain (name : String) (sup : Option ClassId) : Class where
  name := name
  kind := .ordinary
  loader := none
  accessFlags := 33
  super := sup
  interfaces := #[]
  cf := none
  fields := #[]
  methods := #[]
  instanceTypes := #[]
  staticTypes := #[]
  resolved := #[]
  callSites := []
  init := .initialized
  statics := none
  mirror := none

def pool0 : Array CpInfo := pool [(5, u "<init>"), (0, u "()V"), (1, .class_ 10), (1, u "java/lang/Object")] 113

def k0c0 : Code := { maxStack := 0, maxLocals := 1, code := object_method_1_code, exceptionTable := #[], attributes := #[] }
def k0m0 : Method := { name := "<init>", desc := "()V", sig := { parameters := [], returnType := none }, accessFlags := 1, code := some k0c0 }
/-- java/lang/Object -/
def k0 : Class := { plain "java/lang/Object" none with
  accessFlags := 33
  interfaces := #[]
  cf := some (fileOf pool0 8 #[] #[{ accessFlags := 1, nameIndex := 5, descriptorIndex := 6, attributes := #[] }] 33 0 #[] #[])
  fields := #[]
  methods := #[k0m0]
  instanceTypes := #[]
  staticTypes := #[]
  resolved := Array.replicate 124 none
  statics := none }

def pool1 : Array CpInfo := pool [(2, .class_ 4), (1, u "java/lang/Object"), (0, u "<init>"), (0, u "()V"), (0, .class_ 8), (0, u "com/example/commit_log_store/commitlogstore/io/TimeIndex$Entry"), (0, .methodref 7 10), (0, .nameAndType 5 11), (0, u "(JJ)V"), (0, .methodref 13 14), (0, .class_ 15), (0, .nameAndType 16 17), (0, u "com/example/commit_log_store/commitlogstore/io/EntryRisesPast362PinLaw"), (0, u "above"), (0, u "(JJ)Z"), (0, .methodref 7 19), (0, .nameAndType 20 21), (0, u "risesPast"), (0, u "(Lcom/example/commit_log_store/commitlogstore/io/TimeIndex$Entry;)Z"), (0, .methodref 23 24), (0, .class_ 25), (0, .nameAndType 26 27), (0, u "java/lang/Math"), (0, u "max"), (0, u "(JJ)J"), (2, u "law"), (0, u "(JJJJI)Z")] 7

def k1m0 : Method := { name := "<init>", desc := "()V", sig := { parameters := [], returnType := none }, accessFlags := 1, code := none }
def k1c1 : Code := { maxStack := 6, maxLocals := 23, code := code, exceptionTable := #[], attributes := #[] }
def k1m1 : Method := { name := "law", desc := "(JJJJI)Z", sig := { parameters := [.long, .long, .long, .long, .int], returnType := some .boolean }, accessFlags := 9, code := some k1c1 }
def k1c2 : Code := { maxStack := 4, maxLocals := 4, code := method_3_code, exceptionTable := #[], attributes := #[] }
def k1m2 : Method := { name := "above", desc := "(JJ)Z", sig := { parameters := [.long, .long], returnType := some .boolean }, accessFlags := 10, code := some k1c2 }
/-- com/example/commit_log_store/commitlogstore/io/EntryRisesPast362PinLaw -/
def k1 : Class := { plain "com/example/commit_log_store/commitlogstore/io/EntryRisesPast362PinLaw" (some 0) with
  accessFlags := 49
  interfaces := #[]
  cf := some (fileOf pool1 13 #[] #[{ accessFlags := 1, nameIndex := 5, descriptorIndex := 6, attributes := #[] }, { accessFlags := 9, nameIndex := 30, descriptorIndex := 31, attributes := #[] }, { accessFlags := 10, nameIndex := 16, descriptorIndex := 17, attributes := #[] }] 49 2 #[] #[])
  fields := #[]
  methods := #[k1m0, k1m1, k1m2]
  instanceTypes := #[]
  staticTypes := #[]
  resolved := Array.replicate 39 none
  statics := none }

def pool2 : Array CpInfo := pool [(1, .methodref 2 3), (0, .class_ 4), (0, .nameAndType 5 6), (0, u "java/lang/Object"), (0, u "<init>"), (0, u "()V"), (0, .class_ 8), (0, u "java/lang/Record")] 13

def k2c0 : Code := { maxStack := 1, maxLocals := 1, code := jdk_30_method_1_code, exceptionTable := #[], attributes := #[] }
def k2m0 : Method := { name := "<init>", desc := "()V", sig := { parameters := [], returnType := none }, accessFlags := 4, code := some k2c0 }
/-- java/lang/Record -/
def k2 : Class := { plain "java/lang/Record" (some 0) with
  accessFlags := 1057
  interfaces := #[]
  cf := some (fileOf pool2 7 #[] #[{ accessFlags := 4, nameIndex := 5, descriptorIndex := 6, attributes := #[] }] 1057 2 #[] #[])
  fields := #[]
  methods := #[k2m0]
  instanceTypes := #[]
  staticTypes := #[]
  resolved := Array.replicate 22 none
  statics := none }

def pool3 : Array CpInfo := pool [(1, .methodref 2 3), (0, .class_ 4), (0, .nameAndType 5 6), (0, u "java/lang/Record"), (0, u "<init>"), (0, u "()V"), (0, .fieldref 8 9), (0, .class_ 10), (0, .nameAndType 11 12), (0, u "com/example/commit_log_store/commitlogstore/io/TimeIndex$Entry"), (0, u "timestamp"), (0, u "J"), (0, .fieldref 8 14), (0, .nameAndType 15 12), (0, u "offset"), (12, u "(JJ)V"), (3, u "risesPast"), (0, u "(Lcom/example/commit_log_store/commitlogstore/io/TimeIndex$Entry;)Z"), (8, .class_ 43), (0, u "com/example/commit_log_store/commitlogstore/io/TimeIndex")] 20

def k3c0 : Code := { maxStack := 3, maxLocals := 5, code := prog_53_method_1_code, exceptionTable := #[], attributes := #[] }
def k3m0 : Method := { name := "<init>", desc := "(JJ)V", sig := { parameters := [.long, .long], returnType := none }, accessFlags := 1, code := some k3c0 }
def k3c1 : Code := { maxStack := 4, maxLocals := 2, code := prog_53_method_2_code, exceptionTable := #[], attributes := #[] }
def k3m1 : Method := { name := "risesPast", desc := "(Lcom/example/commit_log_store/commitlogstore/io/TimeIndex$Entry;)Z", sig := { parameters := [(.object "com/example/commit_log_store/commitlogstore/io/TimeIndex$Entry")], returnType := some .boolean }, accessFlags := 1, code := some k3c1 }
/-- com/example/commit_log_store/commitlogstore/io/TimeIndex$Entry -/
def k3 : Class := { plain "com/example/commit_log_store/commitlogstore/io/TimeIndex$Entry" (some 2) with
  accessFlags := 49
  interfaces := #[]
  cf := some (fileOf pool3 8 #[.nestHost 42] #[{ accessFlags := 1, nameIndex := 5, descriptorIndex := 28, attributes := #[] }, { accessFlags := 1, nameIndex := 32, descriptorIndex := 33, attributes := #[] }] 49 2 #[] #[{ accessFlags := 18, nameIndex := 11, descriptorIndex := 12, attributes := #[] }, { accessFlags := 18, nameIndex := 15, descriptorIndex := 12, attributes := #[] }])
  fields := #[{ name := "timestamp", type := .long, accessFlags := 18, slot := 0, constantValue := 0 }, { name := "offset", type := .long, accessFlags := 18, slot := 1, constantValue := 0 }]
  methods := #[k3m0, k3m1]
  instanceTypes := #[.long, .long]
  staticTypes := #[]
  resolved := Array.replicate 64 none
  statics := none }

def pool4 : Array CpInfo := pool [(1, .class_ 2), (0, u "java/lang/Math"), (1, .class_ 6), (1, u "java/lang/Object"), (0, u "<init>"), (0, u "()V"), (89, .class_ 100), (1, u "java/lang/Math$RandomNumberGeneratorHolder"), (20, u "(JJ)J"), (50, u "negativeZeroFloatBits"), (0, u "J"), (2, u "negativeZeroDoubleBits"), (21, u "max"), (46, u "$assertionsDisabled"), (0, u "Z"), (91, u "twoToTheDoubleScaleDown"), (0, u "D"), (4, u "twoToTheDoubleScaleUp"), (9, u "E"), (3, u "PI"), (2, u "TAU"), (2, u "DEGREES_TO_RADIANS"), (0, u "RADIANS_TO_DEGREES")] 94

def k4m0 : Method := { name := "<init>", desc := "()V", sig := { parameters := [], returnType := none }, accessFlags := 2, code := none }
def k4c1 : Code := { maxStack := 4, maxLocals := 4, code := jdk_29_method_66_code, exceptionTable := #[], attributes := #[] }
def k4m1 : Method := { name := "max", desc := "(JJ)J", sig := { parameters := [.long, .long], returnType := some .long }, accessFlags := 9, code := some k4c1 }
/-- java/lang/Math -/
def k4 : Class := { plain "java/lang/Math" (some 0) with
  accessFlags := 49
  interfaces := #[]
  cf := some (fileOf pool4 1 #[.nestMembers #[98]] #[{ accessFlags := 2, nameIndex := 7, descriptorIndex := 8, attributes := #[] }, { accessFlags := 9, nameIndex := 198, descriptorIndex := 121, attributes := #[] }] 49 4 #[] #[{ accessFlags := 25, nameIndex := 354, descriptorIndex := 339, attributes := #[] }, { accessFlags := 25, nameIndex := 358, descriptorIndex := 339, attributes := #[] }, { accessFlags := 25, nameIndex := 361, descriptorIndex := 339, attributes := #[] }, { accessFlags := 26, nameIndex := 364, descriptorIndex := 339, attributes := #[] }, { accessFlags := 26, nameIndex := 365, descriptorIndex := 339, attributes := #[] }, { accessFlags := 26, nameIndex := 172, descriptorIndex := 173, attributes := #[] }, { accessFlags := 26, nameIndex := 176, descriptorIndex := 173, attributes := #[] }, { accessFlags := 8, nameIndex := 344, descriptorIndex := 339, attributes := #[] }, { accessFlags := 8, nameIndex := 338, descriptorIndex := 339, attributes := #[] }, { accessFlags := 4120, nameIndex := 245, descriptorIndex := 246, attributes := #[] }])
  fields := #[{ name := "E", type := .double, accessFlags := 25, slot := 0, constantValue := 0 }, { name := "PI", type := .double, accessFlags := 25, slot := 1, constantValue := 0 }, { name := "TAU", type := .double, accessFlags := 25, slot := 2, constantValue := 0 }, { name := "DEGREES_TO_RADIANS", type := .double, accessFlags := 26, slot := 3, constantValue := 0 }, { name := "RADIANS_TO_DEGREES", type := .double, accessFlags := 26, slot := 4, constantValue := 0 }, { name := "negativeZeroFloatBits", type := .long, accessFlags := 26, slot := 5, constantValue := 0 }, { name := "negativeZeroDoubleBits", type := .long, accessFlags := 26, slot := 6, constantValue := 0 }, { name := "twoToTheDoubleScaleUp", type := .double, accessFlags := 8, slot := 7, constantValue := 0 }, { name := "twoToTheDoubleScaleDown", type := .double, accessFlags := 8, slot := 8, constantValue := 0 }, { name := "$assertionsDisabled", type := .boolean, accessFlags := 4120, slot := 9, constantValue := 0 }]
  methods := #[k4m0, k4m1]
  instanceTypes := #[]
  staticTypes := #[.double, .double, .double, .double, .double, .long, .long, .double, .double, .boolean]
  resolved := Array.replicate 460 none
  statics := none }

def pool5 : Array CpInfo := pool [(1, u "java/lang/Cloneable"), (0, .class_ 1), (0, u "java/lang/Object"), (0, .class_ 3)] 3

/-- java/lang/Cloneable -/
def k5 : Class := { plain "java/lang/Cloneable" (some 0) with
  accessFlags := 1537
  interfaces := #[]
  cf := some (fileOf pool5 2 #[] #[] 1537 4 #[] #[])
  fields := #[]
  methods := #[]
  instanceTypes := #[]
  staticTypes := #[]
  resolved := Array.replicate 8 none
  statics := none }

def pool6 : Array CpInfo := pool [(1, u "java/io/Serializable"), (0, .class_ 1), (0, u "java/lang/Object"), (0, .class_ 3)] 3

/-- java/io/Serializable -/
def k6 : Class := { plain "java/io/Serializable" (some 0) with
  accessFlags := 1537
  interfaces := #[]
  cf := some (fileOf pool6 2 #[] #[] 1537 4 #[] #[])
  fields := #[]
  methods := #[]
  instanceTypes := #[]
  staticTypes := #[]
  resolved := Array.replicate 8 none
  statics := none }

/-- the primitive byte -/
def k7 : Class := { plain "byte" none with kind := .primitive 'B', accessFlags := 0x411 }
/-- [B -/
def k8 : Class := { plain "[B" (some 0) with kind := .array 7 .byte, interfaces := #[5, 6], accessFlags := 1041 }

/-- the primitive int -/
def k9 : Class := { plain "int" none with kind := .primitive 'I', accessFlags := 0x411 }
/-- [I -/
def k10 : Class := { plain "[I" (some 0) with kind := .array 9 .int, interfaces := #[5, 6], accessFlags := 1041 }

def heap : Heap := #[]
def classes : Array Class := #[k0, k1, k2, k3, k4, k5, k6, k7, k8, k9, k10]
def interned : List (Array UInt16 × Addr) := []
def slotsUsed : Nat := 0
def theMethod : MethodId := ⟨1, 1⟩
def args0 : Array Value := #[.long 5, .long 6, .long 7, .long 8, .int 9]
def aboutOver (below : List Frame) : State where
  vm := { classes := classes, interned := interned.toArray }
  heap := heap
  slotsUsed := slotsUsed
  threads := #[{ frames := .invoking theMethod args0 :: below }]
def below0 : List Frame := [.native { method := ⟨0, 0⟩, args := #[] }]
def about1 : State := aboutOver below0
def p0 : Program := .bare "" "" ""
def e0 : Env := launch0.env 0 0 0
theorem w_frames : about1.frames = Frame.invoking theMethod args0 :: below0 := rfl
set_option maxRecDepth 65536 in
theorem w_args : argsFit about1.vm theMethod args0 = true := by decide +kernel
set_option maxRecDepth 65536 in
theorem w_heap : heapFits about1 = true := by decide +kernel
set_option maxRecDepth 65536 in
theorem w_runnable : about1.curStatus? = some .runnable := by decide +kernel
set_option maxRecDepth 65536 in
theorem w_alone : about1.alone = true := by decide +kernel
set_option maxRecDepth 65536 in
theorem w_named : about1.methodNamed? x = some theMethod := by decide +kernel
set_option maxRecDepth 65536 in
theorem w_hears : about1.hears theMethod below0 = true := by decide +kernel
set_option maxRecDepth 65536 in
theorem w_ripe : about1.ripe theMethod args0 below0 = true := by decide +kernel
theorem w_running : about1.status = .running := rfl
set_option maxRecDepth 65536 in
theorem w_room : about1.hasRoom e0.platform room_1 = true :=
  launch0.hasRoom_least _ room_1 (by decide +kernel) (by decide +kernel) (by decide +kernel) (by decide +kernel) (by decide +kernel) (by decide +kernel)
theorem allAtoms_all (ts : List Jvm.Cond) (a : Array Jvm.Value) (st : Jvm.State) : (allAtoms ts).before a st = ts.all (fun c => c.before a st) := by
  induction ts with
  | nil => rfl
  | cons c t ih =>
    show (Jvm.Cond.and c (allAtoms t)).before a st = _
    rw [Jvm.Cond.before_and, ih, List.all_cons]
def words1 : List Jvm.Cond := Jvm.Cond.code x code maxLocals ret :: tables_1
/-- a 'code' word, met by the world's own term for the bytes: nothing is compared byte by byte -/
theorem code_word {y : MethodName} {bytes : ByteArray} {mx : Nat} {rt : Option FieldType} {a : Array Value} {s : State} {m : MethodId} {meth : Method} {c : Code} (h1 : s.methodNamed? y = some m) (h2 : s.vm.method? m = some meth) (h3 : meth.code = some c) (h4 : c.code = bytes)
    (h5 : (c.maxLocals == mx && c.exceptionTable.isEmpty && decide (c.maxStack ≤ mostOperands) && decide (meth.sig.returnType = rt) && !meth.locks && decide (parseMethodDescriptor y.desc = some meth.sig)) = true) : (Jvm.Cond.code y bytes mx rt).before a s = true := by
  simp only [Bool.and_eq_true, beq_iff_eq, Bool.not_eq_true', decide_eq_true_eq] at h5
  obtain ⟨⟨⟨⟨⟨g1, g2⟩, g3⟩, g4⟩, g5⟩, g6⟩ := h5
  simp [Cond.before, Cond.holds, Cond.value, h1, h2, h3, h4, g1, g2, g3, g4, g5, g6]
def isCode : Jvm.Cond → Bool
  | .code _ _ _ _ => true
  | _ => false
theorem all_split {L : List Jvm.Cond} {P : Jvm.Cond → Bool} (h1 : L.all (fun c => isCode c || P c) = true) (h2 : ∀ c ∈ L.filter isCode, P c = true) : L.all P = true := by
  refine List.all_eq_true.mpr fun c hc => ?_
  have h := List.all_eq_true.mp h1 c hc
  rcases Bool.eq_false_or_eq_true (isCode c) with hi | hi
  · exact h2 c (List.mem_filter.mpr ⟨hc, hi⟩)
  · simpa [hi] using h
set_option maxRecDepth 65536 in
theorem w_c0 : (Jvm.Cond.code x code maxLocals ret).before args0 about1 = true := code_word (m := ⟨1, 1⟩) (meth := k1m1) (c := k1c1) (by decide +kernel) rfl rfl rfl (by decide +kernel)
set_option maxRecDepth 65536 in
theorem w_c1 : (Jvm.Cond.code ({ cls := "com/example/commit_log_store/commitlogstore/io/TimeIndex$Entry", name := "<init>", desc := "(JJ)V" } : Jvm.MethodName) prog_53_method_1_code (5 : Nat) (Option.none : Option Jvm.ClassFile.FieldType)).before args0 about1 = true := code_word (m := ⟨3, 0⟩) (meth := k3m0) (c := k3c0) (by decide +kernel) rfl rfl rfl (by decide +kernel)
set_option maxRecDepth 65536 in
theorem w_c2 : (Jvm.Cond.code ({ cls := "java/lang/Record", name := "<init>", desc := "()V" } : Jvm.MethodName) jdk_30_method_1_code (1 : Nat) (Option.none : Option Jvm.ClassFile.FieldType)).before args0 about1 = true := code_word (m := ⟨2, 0⟩) (meth := k2m0) (c := k2c0) (by decide +kernel) rfl rfl rfl (by decide +kernel)
set_option maxRecDepth 65536 in
theorem w_c3 : (Jvm.Cond.code ({ cls := "java/lang/Object", name := "<init>", desc := "()V" } : Jvm.MethodName) object_method_1_code (1 : Nat) (Option.none : Option Jvm.ClassFile.FieldType)).before args0 about1 = true := code_word (m := ⟨0, 0⟩) (meth := k0m0) (c := k0c0) (by decide +kernel) rfl rfl rfl (by decide +kernel)
set_option maxRecDepth 65536 in
theorem w_c4 : (Jvm.Cond.code ({ cls := "com/example/commit_log_store/commitlogstore/io/EntryRisesPast362PinLaw", name := "above", desc := "(JJ)Z" } : Jvm.MethodName) method_3_code (4 : Nat) (Option.some Jvm.ClassFile.FieldType.boolean)).before args0 about1 = true := code_word (m := ⟨1, 2⟩) (meth := k1m2) (c := k1c2) (by decide +kernel) rfl rfl rfl (by decide +kernel)
set_option maxRecDepth 65536 in
theorem w_c5 : (Jvm.Cond.code ({ cls := "java/lang/Math", name := "max", desc := "(JJ)J" } : Jvm.MethodName) jdk_29_method_66_code (4 : Nat) (Option.some Jvm.ClassFile.FieldType.long)).before args0 about1 = true := code_word (m := ⟨4, 1⟩) (meth := k4m1) (c := k4c1) (by decide +kernel) rfl rfl rfl (by decide +kernel)
set_option maxRecDepth 65536 in
theorem w_c6 : (Jvm.Cond.code ({ cls := "com/example/commit_log_store/commitlogstore/io/TimeIndex$Entry", name := "risesPast", desc := "(Lcom/example/commit_log_store/commitlogstore/io/TimeIndex$Entry;)Z" } : Jvm.MethodName) prog_53_method_2_code (2 : Nat) (Option.some Jvm.ClassFile.FieldType.boolean)).before args0 about1 = true := code_word (m := ⟨3, 1⟩) (meth := k3m1) (c := k3c1) (by decide +kernel) rfl rfl rfl (by decide +kernel)
def codes1 : List Jvm.Cond := [Jvm.Cond.code x code maxLocals ret, Jvm.Cond.code ({ cls := "com/example/commit_log_store/commitlogstore/io/TimeIndex$Entry", name := "<init>", desc := "(JJ)V" } : Jvm.MethodName) prog_53_method_1_code (5 : Nat) (Option.none : Option Jvm.ClassFile.FieldType), Jvm.Cond.code ({ cls := "java/lang/Record", name := "<init>", desc := "()V" } : Jvm.MethodName) jdk_30_method_1_code (1 : Nat) (Option.none : Option Jvm.ClassFile.FieldType), Jvm.Cond.code ({ cls := "java/lang/Object", name := "<init>", desc := "()V" } : Jvm.MethodName) object_method_1_code (1 : Nat) (Option.none : Option Jvm.ClassFile.FieldType), Jvm.Cond.code ({ cls := "com/example/commit_log_store/commitlogstore/io/EntryRisesPast362PinLaw", name := "above", desc := "(JJ)Z" } : Jvm.MethodName) method_3_code (4 : Nat) (Option.some Jvm.ClassFile.FieldType.boolean), Jvm.Cond.code ({ cls := "java/lang/Math", name := "max", desc := "(JJ)J" } : Jvm.MethodName) jdk_29_method_66_code (4 : Nat) (Option.some Jvm.ClassFile.FieldType.long), Jvm.Cond.code ({ cls := "com/example/commit_log_store/commitlogstore/io/TimeIndex$Entry", name := "risesPast", desc := "(Lcom/example/commit_log_store/commitlogstore/io/TimeIndex$Entry;)Z" } : Jvm.MethodName) prog_53_method_2_code (2 : Nat) (Option.some Jvm.ClassFile.FieldType.boolean)]
set_option maxRecDepth 65536 in
theorem codes_eq : words1.filter isCode = codes1 := rfl
theorem w_codes : ∀ c ∈ words1.filter isCode, c.before args0 about1 = true := by
  rw [codes_eq]
  intro c hc
  simp only [codes1, List.mem_cons, List.not_mem_nil, or_false] at hc
  rcases hc with rfl | rfl | rfl | rfl | rfl | rfl | rfl
  · exact w_c0
  · exact w_c1
  · exact w_c2
  · exact w_c3
  · exact w_c4
  · exact w_c5
  · exact w_c6
set_option maxRecDepth 65536 in
theorem w_t1 : (words1.take 24).all (fun c => isCode c || c.before args0 about1) = true := by decide +kernel
set_option maxRecDepth 65536 in
theorem w_t2 : (words1.drop 24).all (fun c => isCode c || c.before args0 about1) = true := by decide +kernel
theorem w_tables : (allAtoms (Jvm.Cond.code x code maxLocals ret :: tables_1)).before args0 about1 = true := by
  rw [allAtoms_all]
  show words1.all (fun c => c.before args0 about1) = true
  refine all_split ?_ w_codes
  rw [← List.take_append_drop 24 words1, List.all_append, w_t1, w_t2]
  rfl
set_option maxRecDepth 65536 in
theorem w_case : (Jvm.Cond.and given_1 narrow_1).before args0 about1 = true := by decide +kernel
theorem w_applies : (headSpec (Jvm.Cond.code x code maxLocals ret :: tables_1) room_1).applies x e0.platform about1 = true :=
  (Spec.applies_iff w_frames).mpr ⟨w_running, w_runnable, w_alone, w_named, w_hears, w_ripe, w_room, w_tables⟩
theorem atStart : AtStart classFile x code maxLocals ret World_1 tables_1 room_1 Calls_1 rest_1 Pre_1 launch0 p0 e0 about1 theMethod args0 below0 :=
  ⟨lists_1, trivial, launch0.admits_env _ _ _, launch0.least_env, fairChoices_fair.cas, fairChoices_fair.clock, w_frames, w_args, w_heap, w_applies, trivial, trivial, w_case⟩
end start1
theorem witness_1 : WitnessClaimed_1 := ⟨start1.p0, start1.e0, start1.about1, start1.theMethod, start1.args0, start1.below0, start1.atStart⟩
end Jvm.Pilot.@@N@@
