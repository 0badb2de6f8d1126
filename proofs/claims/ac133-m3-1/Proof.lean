import JvmDerived
import JvmDerived.Pilot.@@N@@Statement
import JvmDerived.Pilot.@@N@@Code
set_option linter.unusedVariables false
set_option linter.unusedSimpArgs false
@@BLOCK:NumsL.lean.txt@@
namespace Jvm.Pilot.@@N@@
open Jvm Jvm.ClassFile Sem Op Lib Jvm.Free Jvm.Stand Jvm.LawKit Jvm.RoadKit Bundle Jvm.Pilot.@@N@@.Jvm.D
/-! own layer: the run from here ends, and Q holds of what it returned, of the heap and of the places written -/
def own_End (p : Program) (e : Env) (below : List Frame) (P : State → Outcome → Prop) (T : State) (f : JFrame) : Prop := ∃ s₂ o, Steps p.tables e below (T.setTop f) s₂ ∧ P s₂ o
def own_P (below : List Frame) (s : State) (Q : Option Value → Heap → List Loc → Prop) (kc ns : Nat) : State → Outcome → Prop := fun s₂ o => s₂.status = .running ∧ Ended s₂ below o ∧ ∃ v L, o = .returned v ∧ Q v s₂.heap L ∧ FrameEnd s o s₂ L kc ns
def own_Met (l : Launch) (Z : State) (y : MethodName) (bytes : ByteArray) (maxL : Nat) (ret : Option FieldType) (ws : List Jvm.Cond) (rm : Room) (as' : Array Value) (h : Heap) (Q : Option Value → Heap → List Loc → Prop) : Prop :=
  MetFree l y (head1 (Jvm.Cond.code y bytes maxL ret :: ws) rm) (fun a U => a = as' ∧ Z.Warmed39 U.vm ∧ U.heap = h) (fun _ _ _ _ _ => True) (fun _ U o U' => ∃ v L, o = .returned v ∧ Q v U'.heap L ∧ FrameEnd U o U' L rm.cells rm.slots)
section OwnSteps
variable {p : Program} {l : Launch} {e : Env} {R : Room} {s : State} {m : MethodId} {args : Array Value} {below : List Frame} {meth : Method} {c : Code} {T : State} {locs : List Loc} {cells slots : Nat} {P : State → Outcome → Prop} {Q : Option Value → Heap → List Loc → Prop} {kc ns : Nat} {Z : State} {a0 : Array Value} {h : Heap} {f : JFrame}
theorem own_go {T' : State} {f' : JFrame} (st : ∀ t, Steps p.tables e below (T'.setTop f') t → Steps p.tables e below (T.setTop f) t) (k : own_End p e below P T' f') : own_End p e below P T f := by
  obtain ⟨s₂, o, h1, h2⟩ := k
  exact ⟨s₂, o, st _ h1, h2⟩
theorem own_via {T' : State} {f' : JFrame} (st : Steps p.tables e below (T.setTop f) (T'.setTop f')) (k : own_End p e below P T' f') : own_End p e below P T f := own_go (fun _ h => st.trans h) k
theorem own_exf (h : False) : own_End p e below P T f := h.elim
theorem own_body {y : MethodName} {bytes : ByteArray} {maxL : Nat} {ret : Option FieldType} {ws : List Jvm.Cond} {rm : Room} {as' : Array Value} (hpl : plainFor y = true)
    (body : ∀ (p : Program) (e : Env) (s : State) (m : MethodId) (below : List Frame) (meth : Method) (c : Code) (s₁ : State), p.tables.exec = Jvm.exec → Z.Warmed39 s.vm → c.code = bytes → c.maxLocals = maxL → s.vm.findClass y.cls = some m.cls → meth.name = y.name → meth.sig.returnType = ret → meth.locks = false →
      Stand p l e rm s m as' below meth c s₁ [] 0 0 → s₁.heap = h → own_End p e below (own_P below s Q rm.cells rm.slots) s₁ (entryFrame m as' maxL)) : own_Met l Z y bytes maxL ret ws rm as' h Q := by
  refine MetFree.of_bodySF hpl hisR ?_
  intro p e s m args below meth c s₁ Bd hml0 hP hK
  obtain ⟨rfl, hZ, hh⟩ := hP
  exact body p e s m below meth c s₁ Bd.exec hZ Bd.bytes hml0 (findClass_of_methodNamed Bd.named) (name_of_methodNamed Bd.named Bd.method).1 Bd.returns Bd.notSynchronized (Stand.of_body Bd) (by rw [← hh, Bd.state]; rfl)
theorem own_cast {g g' : JFrame} (q : g = g') (k : own_End p e below P T g') : own_End p e below P T g := q ▸ k
theorem own_ret (X : Stand p l e R s m args below meth c T locs cells slots) (hP : P = own_P below s Q kc ns) (hlk : meth.locks = false) (eT : T.heap = h) {v : Option Value} (hv : meth.sig.returnType = none → v = none) (hk : cells ≤ kc) (hn : slots ≤ ns) (hQ : Q v h locs)
    (st : ∀ fs, (∀ (f : JFrame) (acts : List Action), f.method = m → f.locked = none → f.entered = [] → (doReturn e (T.setTop f) acts v).1 = T.setFrames fs) → Steps p.tables e below (T.setTop f) (T.setFrames fs)) : own_End p e below P T f := by
  obtain ⟨fs, hr, hrun, hended, hW, hsame⟩ := X.leave hv hlk
  subst hP
  exact ⟨_, _, st fs hr, hrun, hended, _, _, rfl, (eT ▸ hQ : Q v T.heap locs), ⟨_, rfl⟩, hW, hsame.mono hk hn⟩
theorem own_retV (X : Stand p l e R s m args below meth c T locs cells slots) (hP : P = own_P below s Q kc ns) (hx : p.tables.exec = Jvm.exec) (hlk : meth.locks = false) (eT : T.heap = h) {pc : Nat} {Ls : Array Slot} (hret : meth.sig.returnType = none) (hd : decode c.code pc = .ok (.return_, 1)) (hk : cells ≤ kc) (hn : slots ≤ ns) (hQ : Q none h locs) :
    own_End p e below P T (mkF m pc Ls []) := own_ret X hP hlk eT (fun _ => rfl) hk hn hQ fun _ hr => X.returnOut hx hret hd hr
theorem own_retI (X : Stand p l e R s m args below meth c T locs cells slots) (hP : P = own_P below s Q kc ns) (hx : p.tables.exec = Jvm.exec) (hlk : meth.locks = false) (eT : T.heap = h) {pc : Nat} {Ls : Array Slot} {z : Int32} {rest : List Value} (hret : meth.sig.returnType = some .int) (hd : decode c.code pc = .ok (.ireturn, 1)) (hk : cells ≤ kc) (hn : slots ≤ ns) (hQ : Q (some (.int z)) h locs) :
    own_End p e below P T (mkF m pc Ls (.int z :: rest)) := own_ret X hP hlk eT (fun h => by rw [hret] at h; cases h) hk hn hQ fun fs hr => retOut X hx hret rfl (Or.inl ⟨rfl, Or.inl rfl, z, rfl⟩) hd hr
theorem own_retN (X : Stand p l e R s m args below meth c T locs cells slots) (hP : P = own_P below s Q kc ns) (hx : p.tables.exec = Jvm.exec) (hlk : meth.locks = false) (eT : T.heap = h) {pc : Nat} {Ls : Array Slot} {z : Int32} {rest : List Value} {t : FieldType} (hret : meth.sig.returnType = some t) (ht : t = .boolean ∨ t = .byte ∨ t = .char ∨ t = .short) (hd : decode c.code pc = .ok (.ireturn, 1)) (hk : cells ≤ kc) (hn : slots ≤ ns) {z' : Int32} (hz : nar t z = z') (hQ : Q (some (.int z')) h locs) :
    own_End p e below P T (mkF m pc Ls (.int z :: rest)) := by
  subst hz
  exact own_ret X hP hlk eT (fun h => by rw [hret] at h; cases h) hk hn hQ fun fs hr => retN X hx hret ht hd hr
theorem own_retJ (X : Stand p l e R s m args below meth c T locs cells slots) (hP : P = own_P below s Q kc ns) (hx : p.tables.exec = Jvm.exec) (hlk : meth.locks = false) (eT : T.heap = h) {pc : Nat} {Ls : Array Slot} {z : Int64} {rest : List Value} (hret : meth.sig.returnType = some .long) (hd : decode c.code pc = .ok (.lreturn, 1)) (hk : cells ≤ kc) (hn : slots ≤ ns) (hQ : Q (some (.long z)) h locs) :
    own_End p e below P T (mkF m pc Ls (.long z :: rest)) := own_ret X hP hlk eT (fun h => by rw [hret] at h; cases h) hk hn hQ fun fs hr => retOut X hx hret rfl (Or.inr (Or.inl ⟨rfl, rfl, z, rfl⟩)) hd hr
theorem own_retA (X : Stand p l e R s m args below meth c T locs cells slots) (hP : P = own_P below s Q kc ns) (hx : p.tables.exec = Jvm.exec) (hlk : meth.locks = false) (eT : T.heap = h) {pc : Nat} {Ls : Array Slot} {w : Value} {rest : List Value} {t : FieldType} (hret : meth.sig.returnType = some t) (ht : t.isReference = true) (hw : w.isRef = true) (hnr : narrow t w = w) (hd : decode c.code pc = .ok (.areturn, 1)) (hk : cells ≤ kc) (hn : slots ≤ ns) (hQ : Q (some w) h locs) :
    own_End p e below P T (mkF m pc Ls (w :: rest)) := own_ret X hP hlk eT (fun h => by rw [hret] at h; cases h) hk hn hQ fun fs hr => retOut X hx hret hnr (Or.inr (Or.inr (Or.inr (Or.inr ⟨rfl, ht, hw⟩)))) hd hr
theorem own_callS (X : Stand p l e R s m args below meth c T locs cells slots) (hx : p.tables.exec = Jvm.exec) (hZ : Z.Warmed39 s.vm) {own : String} (hown : s.vm.findClass own = some m.cls) (eT : T.heap = h) {index : Nat} {y : MethodName} {bytes : ByteArray} {maxL : Nat} {ret : Option FieldType} {rm : Room} {as' : Array Value} {Q' : Option Value → Heap → List Loc → Prop}
    (w1 : (Cond.methodLink own index y).before a0 Z = true) (w2 : (Cond.static y).before a0 Z = true) (w3 : (Cond.initialized y.cls).before a0 Z = true) (w4 : (Cond.code y bytes maxL ret).before a0 Z = true) (hy : y.cls ≠ "java/lang/invoke/MethodHandle" ∧ y.cls ≠ "java/lang/invoke/VarHandle")
    (hM : own_Met l Z y bytes maxL ret [] rm as' h Q') {g : JFrame} (hg : g.method = m) (hsize : g.locals.size = c.maxLocals) {argsL rest : List Value} (hlen : ∀ sig, parseMethodDescriptor y.desc = some sig → argsL.length = sig.parameters.length) (hstack : g.stack = argsL.reverse ++ rest) (has : argsL.toArray = as') {W : Nat} (hW : 2 * g.monitorRoom + (rest.map fun v => v.category).sum ≤ W) (hdg : decode c.code g.pc = .ok (.invokestatic index, 3))
    (hf : rm.frames + 1 ≤ R.frames) (hl : W + (maxL + 11) + rm.locals ≤ R.locals) (hc : cells + rm.cells ≤ R.cells) (hs : slots + rm.slots ≤ R.slots)
    (k : ∀ v T' L, Stand p l e R s m args below meth c T' (locs ++ L) (cells + rm.cells) (slots + rm.slots) → Q' v T'.heap L → own_End p e below P T' { g with pc := g.pc + 3, stack := v.toList ++ rest }) : own_End p e below P T g := by
  obtain ⟨v, vm1, ⟨T', L1, k1, n1⟩, -, X', ⟨L, hQ, l1, y1, z1⟩, st⟩ := Jvm.LawKit.callS X hx (y := y) hown (mvT hZ w1) (mvT hZ w2) (mvT hZ w3) (mvT hZ w4) hy (backOf (W := W) hM hZ w4 w3 hf hl) hg hsize hlen hstack hW hdg (fun _ _ => ⟨has, eT, hc, hs⟩)
  dsimp only [Pt.U, Pt.locs, Pt.cells, Pt.slots] at X' l1 y1 z1 st hQ
  subst l1 y1 z1
  exact own_go st (k v T' L X' hQ)
theorem own_callC (X : Stand p l e R s m args below meth c T locs cells slots) (hx : p.tables.exec = Jvm.exec) (hZ : Z.Warmed39 s.vm) {own : String} (hown : s.vm.findClass own = some m.cls) (eT : T.heap = h) {index : Nat} {y : MethodName} {bytes : ByteArray} {maxL : Nat} {rm : Room} {as' : Array Value} {Q' : Option Value → Heap → List Loc → Prop}
    (hyi : y.name = "<init>") (w1 : (Cond.methodLink own index y).before a0 Z = true) (w2 : (Cond.instanceMethod y).before a0 Z = true) (w3 : (Cond.initialized y.cls).before a0 Z = true) (w4 : (Cond.code y bytes maxL none).before a0 Z = true) (hy : y.cls ≠ "java/lang/invoke/MethodHandle" ∧ y.cls ≠ "java/lang/invoke/VarHandle")
    (hM : own_Met l Z y bytes maxL none [] rm as' h Q') {g : JFrame} (hg : g.method = m) (hsize : g.locals.size = c.maxLocals) {a : Addr} {argsL rest : List Value} (hlen : ∀ sig, parseMethodDescriptor y.desc = some sig → argsL.length = sig.parameters.length) (hstack : g.stack = argsL.reverse ++ .ref a :: rest) (has : (.ref a :: argsL).toArray = as') {W : Nat} (hW : 2 * g.monitorRoom + (rest.map fun v => v.category).sum ≤ W) (hdg : decode c.code g.pc = .ok (.invokespecial index, 3))
    (hf : rm.frames + 1 ≤ R.frames) (hl : W + (maxL + 11) + rm.locals ≤ R.locals) (hc : cells + rm.cells ≤ R.cells) (hs : slots + rm.slots ≤ R.slots)
    (k : ∀ v T' L, Stand p l e R s m args below meth c T' (locs ++ L) (cells + rm.cells) (slots + rm.slots) → Q' v T'.heap L → own_End p e below P T' { g with pc := g.pc + 3, stack := v.toList ++ rest }) : own_End p e below P T g := by
  obtain ⟨v, vm1, ⟨T', L1, k1, n1⟩, -, X', ⟨L, hQ, l1, y1, z1⟩, st⟩ := X.specialBack hx (y := y) hyi hown (mvT hZ w1) (mvT hZ w2) (mvT hZ w4) hy (backOf (W := W) hM hZ w4 w3 hf hl) hg hsize (Steps.refl _) (a := a) hlen hstack hW hdg (fun _ _ => ⟨has, eT, hc, hs⟩)
  dsimp only [Pt.U, Pt.locs, Pt.cells, Pt.slots] at X' l1 y1 z1 st hQ
  subst l1 y1 z1
  exact own_via st (k v T' L X' hQ)
theorem own_callV (X : Stand p l e R s m args below meth c T locs cells slots) (hx : p.tables.exec = Jvm.exec) (hZ : Z.Warmed39 s.vm) {own : String} (hown : s.vm.findClass own = some m.cls) (eT : T.heap = h) {index : Nat} {C : String} {y z : MethodName} {bytes : ByteArray} {maxL : Nat} {ret : Option FieldType} {rm : Room} {as' : Array Value} {Q' : Option Value → Heap → List Loc → Prop}
    (w1 : (Cond.methodLink own index y).before a0 Z = true) (wd : (Cond.declares y).before a0 Z = true) (hnf : NotFace s y) (wsel : (Cond.selects C y z).before a0 Z = true) (w2 : (Cond.instanceMethod z).before a0 Z = true) (w3 : (Cond.initialized z.cls).before a0 Z = true) (w4 : (Cond.code z bytes maxL ret).before a0 Z = true) (hy : y.cls ≠ "java/lang/invoke/MethodHandle" ∧ y.cls ≠ "java/lang/invoke/VarHandle")
    (hM : own_Met l Z z bytes maxL ret [] rm as' h Q') {a : Addr} (E : Exa Z h a C) {g : JFrame} (hg : g.method = m) (hsize : g.locals.size = c.maxLocals) {argsL rest : List Value} (hlen : ∀ sig, parseMethodDescriptor y.desc = some sig → argsL.length = sig.parameters.length) (hstack : g.stack = argsL.reverse ++ .ref a :: rest) (has : (.ref a :: argsL).toArray = as') {W : Nat} (hW : 2 * g.monitorRoom + (rest.map fun v => v.category).sum ≤ W) (hdg : decode c.code g.pc = .ok (.invokevirtual index, 3))
    (hf : rm.frames + 1 ≤ R.frames) (hl : W + (maxL + 11) + rm.locals ≤ R.locals) (hc : cells + rm.cells ≤ R.cells) (hs : slots + rm.slots ≤ R.slots)
    (k : ∀ v T' L, Stand p l e R s m args below meth c T' (locs ++ L) (cells + rm.cells) (slots + rm.slots) → Q' v T'.heap L → own_End p e below P T' { g with pc := g.pc + 3, stack := v.toList ++ rest }) : own_End p e below P T g := by
  obtain ⟨cB, kB, q1, q2, q3⟩ := isOf (T := T) hZ eT E
  obtain ⟨v, vm1, ⟨T', L1, k1, n1⟩, -, X', ⟨L, hQ, l1, y1, z1⟩, st⟩ := X.virtualBack hx (y := y) (z := z) hown (mvT hZ w1) (mvT hZ wd) hnf (mvT hZ wsel) (mvT hZ w2) hy (backOf (W := W) hM hZ w4 w3 hf hl) q1 q3 hg hsize (Steps.refl _) hlen hstack hW hdg (fun _ _ => ⟨has, eT, hc, hs⟩)
  dsimp only [Pt.U, Pt.locs, Pt.cells, Pt.slots] at X' l1 y1 z1 st hQ
  subst l1 y1 z1
  exact own_via st (k v T' L X' hQ)
theorem own_selP {C : String} {x' y y' : MethodName} (wz : (Cond.selects C x' y').before args s = true) (hc : y'.cls = y.cls) (hpriv : s.PrivateAt y) (hinst : (Cond.instanceMethod y).before args s = true) (hy : y.cls ≠ "java/lang/invoke/MethodHandle" ∧ y.cls ≠ "java/lang/invoke/VarHandle") : (Cond.selects y.cls y y).before args s = true := by
  obtain ⟨_, _, m2, -, -, q3, -, kP, hkP, hkPi⟩ := Cond.selects_spec wz
  exact selects_self_of_private (by rw [← hc]; exact findClass_of_methodNamed q3) hkP hkPi hpriv hinst hy
theorem own_callP (X : Stand p l e R s m args below meth c T locs cells slots) (hx : p.tables.exec = Jvm.exec) (hZ : Z.Warmed39 s.vm) {own : String} (hown : s.vm.findClass own = some m.cls) (eT : T.heap = h) {index : Nat} {y : MethodName} {bytes : ByteArray} {maxL : Nat} {ret : Option FieldType} {rm : Room} {as' : Array Value} {Q' : Option Value → Heap → List Loc → Prop}
    (w1 : (Cond.methodLink own index y).before a0 Z = true) (w2 : (Cond.instanceMethod y).before a0 Z = true) (wsel : (Cond.selects y.cls y y).before args s = true) (wp : (Cond.privateMethod y).before a0 Z = true) (w3 : (Cond.initialized y.cls).before a0 Z = true) (w4 : (Cond.code y bytes maxL ret).before a0 Z = true) (hy : y.cls ≠ "java/lang/invoke/MethodHandle" ∧ y.cls ≠ "java/lang/invoke/VarHandle")
    (hM : own_Met l Z y bytes maxL ret [] rm as' h Q') {C : String} {a : Addr} (E : Exa Z h a C) {g : JFrame} (hg : g.method = m) (hsize : g.locals.size = c.maxLocals) {argsL rest : List Value} (hlen : ∀ sig, parseMethodDescriptor y.desc = some sig → argsL.length = sig.parameters.length) (hstack : g.stack = argsL.reverse ++ .ref a :: rest) (has : (.ref a :: argsL).toArray = as') {W : Nat} (hW : 2 * g.monitorRoom + (rest.map fun v => v.category).sum ≤ W) (hdg : decode c.code g.pc = .ok (.invokevirtual index, 3))
    (hf : rm.frames + 1 ≤ R.frames) (hl : W + (maxL + 11) + rm.locals ≤ R.locals) (hc : cells + rm.cells ≤ R.cells) (hs : slots + rm.slots ≤ R.slots)
    (k : ∀ v T' L, Stand p l e R s m args below meth c T' (locs ++ L) (cells + rm.cells) (slots + rm.slots) → Q' v T'.heap L → own_End p e below P T' { g with pc := g.pc + 3, stack := v.toList ++ rest }) : own_End p e below P T g := by
  obtain ⟨cq, q1, q2⟩ := E.cell
  obtain ⟨v, vm1, ⟨T', L1, k1, n1⟩, -, X', ⟨L, hQ, l1, y1, z1⟩, st⟩ := X.privateBack hx (y := y) hown (mvT hZ w1) (mvT hZ w2) wsel (Cond.privateMethod_at (mvP hZ wp (args := #[]))) (mvT hZ w4) hy (backOf (W := W) hM hZ w4 w3 hf hl) hg hsize (Steps.refl _) (a := a) (by rw [eT]; exact q1) q2 hlen hstack hW hdg (fun _ _ => ⟨has, eT, hc, hs⟩)
  dsimp only [Pt.U, Pt.locs, Pt.cells, Pt.slots] at X' l1 y1 z1 st hQ
  subst l1 y1 z1
  exact own_via st (k v T' L X' hQ)
end OwnSteps
/-! own: a truth as an int; comparisons of longs -/
def own_z (P : Prop) [Decidable P] : Int32 := if P then 1 else 0
section OwnTruth
variable {P : Prop} [Decidable P] {x y : Int64}
theorem own_z_t (h : P) : own_z P = 1 := if_pos h
theorem own_z_f (h : ¬ P) : own_z P = 0 := if_neg h
theorem own_z_nar : nar .boolean (own_z P) = own_z P := by unfold own_z; split <;> decide
theorem own_z_congr {P' : Prop} [Decidable P'] (h : P ↔ P') : own_z P = own_z P' := by unfold own_z; by_cases q : P <;> simp [q, h.symm, h.mp] <;> simp_all
theorem own_z_inj {P' : Prop} [Decidable P'] (h : own_z P = own_z P') : P ↔ P' := by
  unfold own_z at h; by_cases q : P <;> by_cases q' : P' <;> simp_all
theorem own_zY_eq (h : ¬ P) : ifCond.holds .eq (own_z P) = true := by rw [own_z_f h]; rfl
theorem own_zN_eq (h : P) : ifCond.holds .eq (own_z P) = false := by rw [own_z_t h]; rfl
theorem own_zY_ne (h : P) : ifCond.holds .ne (own_z P) = true := by rw [own_z_t h]; rfl
theorem own_zN_ne (h : ¬ P) : ifCond.holds .ne (own_z P) = false := by rw [own_z_f h]; rfl
theorem own_lY_lt (h : x < y) : ifCond.holds .lt (lcmpW x y) = true := (if0 _ _).trans (tlt ((lw_lt x y).mpr h)).1
theorem own_lN_lt (h : ¬ x < y) : ifCond.holds .lt (lcmpW x y) = false := (if0 _ _).trans (flt (mt (lw_lt x y).mp h)).1
theorem own_lY_ge (h : ¬ x < y) : ifCond.holds .ge (lcmpW x y) = true := (if0 _ _).trans (flt (mt (lw_lt x y).mp h)).2.1
theorem own_lN_ge (h : x < y) : ifCond.holds .ge (lcmpW x y) = false := (if0 _ _).trans (tlt ((lw_lt x y).mpr h)).2.1
theorem own_lY_gt (h : y < x) : ifCond.holds .gt (lcmpW x y) = true := (if0 _ _).trans (tlt ((lw_gt x y).mpr h)).2.2.1
theorem own_lN_gt (h : ¬ y < x) : ifCond.holds .gt (lcmpW x y) = false := (if0 _ _).trans (flt (mt (lw_gt x y).mp h)).2.2.1
theorem own_lY_le (h : ¬ y < x) : ifCond.holds .le (lcmpW x y) = true := (if0 _ _).trans (flt (mt (lw_gt x y).mp h)).2.2.2
theorem own_lN_le (h : y < x) : ifCond.holds .le (lcmpW x y) = false := (if0 _ _).trans (tlt ((lw_gt x y).mpr h)).2.2.2
theorem own_lY_eq (h : x = y) : ifCond.holds .eq (lcmpW x y) = true := (if0 _ _).trans (teq ((lw_eq x y).mpr h)).1
theorem own_lN_eq (h : ¬ x = y) : ifCond.holds .eq (lcmpW x y) = false := (if0 _ _).trans (feq (mt (lw_eq x y).mp h)).1
theorem own_lY_ne (h : ¬ x = y) : ifCond.holds .ne (lcmpW x y) = true := (if0 _ _).trans (feq (mt (lw_eq x y).mp h)).2
theorem own_lN_ne (h : x = y) : ifCond.holds .ne (lcmpW x y) = false := (if0 _ _).trans (teq ((lw_eq x y).mpr h)).2
end OwnTruth
/-! own: a callee that writes nothing -/
def own_Pq (val : Option Value) (h : Heap) : Option Value → Heap → List Loc → Prop := fun v h' L => v = val ∧ L = [] ∧ h' = h
section OwnPure
variable {p : Program} {l : Launch} {e : Env} {R : Room} {s : State} {m : MethodId} {args : Array Value} {below : List Frame} {meth : Method} {c : Code} {T : State} {locs : List Loc} {cells slots : Nat} {P : State → Outcome → Prop} {Q : Option Value → Heap → List Loc → Prop} {kc ns : Nat} {Z : State} {a0 : Array Value} {h : Heap} {f : JFrame}
theorem own_callSp (X : Stand p l e R s m args below meth c T locs cells slots) (hx : p.tables.exec = Jvm.exec) (hZ : Z.Warmed39 s.vm) {own : String} (hown : s.vm.findClass own = some m.cls) (eT : T.heap = h) {index : Nat} {y : MethodName} {bytes : ByteArray} {maxL : Nat} {ret : Option FieldType} {fr lo : Nat} {as' : Array Value} {val : Option Value}
    (w1 : (Cond.methodLink own index y).before a0 Z = true) (w2 : (Cond.static y).before a0 Z = true) (w3 : (Cond.initialized y.cls).before a0 Z = true) (w4 : (Cond.code y bytes maxL ret).before a0 Z = true) (hy : y.cls ≠ "java/lang/invoke/MethodHandle" ∧ y.cls ≠ "java/lang/invoke/VarHandle")
    (hM : own_Met l Z y bytes maxL ret [] { frames := fr, cells := 0, slots := 0, locals := lo } as' h (own_Pq val h)) {g : JFrame} (hg : g.method = m) (hsize : g.locals.size = c.maxLocals) {argsL rest : List Value} (hlen : ∀ sig, parseMethodDescriptor y.desc = some sig → argsL.length = sig.parameters.length) (hstack : g.stack = argsL.reverse ++ rest) (has : argsL.toArray = as') {W : Nat} (hW : 2 * g.monitorRoom + (rest.map fun v => v.category).sum ≤ W) (hdg : decode c.code g.pc = .ok (.invokestatic index, 3))
    (hf : fr + 1 ≤ R.frames) (hl : W + (maxL + 11) + lo ≤ R.locals) (hc : cells ≤ R.cells) (hs : slots ≤ R.slots)
    (k : ∀ T', Stand p l e R s m args below meth c T' locs cells slots → T'.heap = h → own_End p e below P T' { g with pc := g.pc + 3, stack := val.toList ++ rest }) : own_End p e below P T g :=
  own_callS X hx hZ hown eT w1 w2 w3 w4 hy hM hg hsize hlen hstack has hW hdg hf hl hc hs fun v T' L X' ⟨q1, q2, q3⟩ => by
    subst q1 q2
    rw [List.append_nil] at X'
    exact k T' X' q3
theorem own_callCp (X : Stand p l e R s m args below meth c T locs cells slots) (hx : p.tables.exec = Jvm.exec) (hZ : Z.Warmed39 s.vm) {own : String} (hown : s.vm.findClass own = some m.cls) (eT : T.heap = h) {index : Nat} {y : MethodName} {bytes : ByteArray} {maxL : Nat} {fr lo : Nat} {as' : Array Value} {val : Option Value}
    (hyi : y.name = "<init>") (w1 : (Cond.methodLink own index y).before a0 Z = true) (w2 : (Cond.instanceMethod y).before a0 Z = true) (w3 : (Cond.initialized y.cls).before a0 Z = true) (w4 : (Cond.code y bytes maxL none).before a0 Z = true) (hy : y.cls ≠ "java/lang/invoke/MethodHandle" ∧ y.cls ≠ "java/lang/invoke/VarHandle")
    (hM : own_Met l Z y bytes maxL none [] { frames := fr, cells := 0, slots := 0, locals := lo } as' h (own_Pq val h)) {g : JFrame} (hg : g.method = m) (hsize : g.locals.size = c.maxLocals) {a : Addr} {argsL rest : List Value} (hlen : ∀ sig, parseMethodDescriptor y.desc = some sig → argsL.length = sig.parameters.length) (hstack : g.stack = argsL.reverse ++ .ref a :: rest) (has : (.ref a :: argsL).toArray = as') {W : Nat} (hW : 2 * g.monitorRoom + (rest.map fun v => v.category).sum ≤ W) (hdg : decode c.code g.pc = .ok (.invokespecial index, 3))
    (hf : fr + 1 ≤ R.frames) (hl : W + (maxL + 11) + lo ≤ R.locals) (hc : cells ≤ R.cells) (hs : slots ≤ R.slots)
    (k : ∀ T', Stand p l e R s m args below meth c T' locs cells slots → T'.heap = h → own_End p e below P T' { g with pc := g.pc + 3, stack := val.toList ++ rest }) : own_End p e below P T g :=
  own_callC X hx hZ hown eT hyi w1 w2 w3 w4 hy hM hg hsize hlen hstack has hW hdg hf hl hc hs fun v T' L X' ⟨q1, q2, q3⟩ => by
    subst q1 q2
    rw [List.append_nil] at X'
    exact k T' X' q3
theorem own_callVp (X : Stand p l e R s m args below meth c T locs cells slots) (hx : p.tables.exec = Jvm.exec) (hZ : Z.Warmed39 s.vm) {own : String} (hown : s.vm.findClass own = some m.cls) (eT : T.heap = h) {index : Nat} {C : String} {y z : MethodName} {bytes : ByteArray} {maxL : Nat} {ret : Option FieldType} {fr lo : Nat} {as' : Array Value} {val : Option Value}
    (w1 : (Cond.methodLink own index y).before a0 Z = true) (wd : (Cond.declares y).before a0 Z = true) (hnf : NotFace s y) (wsel : (Cond.selects C y z).before a0 Z = true) (w2 : (Cond.instanceMethod z).before a0 Z = true) (w3 : (Cond.initialized z.cls).before a0 Z = true) (w4 : (Cond.code z bytes maxL ret).before a0 Z = true) (hy : y.cls ≠ "java/lang/invoke/MethodHandle" ∧ y.cls ≠ "java/lang/invoke/VarHandle")
    (hM : own_Met l Z z bytes maxL ret [] { frames := fr, cells := 0, slots := 0, locals := lo } as' h (own_Pq val h)) {a : Addr} (E : Exa Z h a C) {g : JFrame} (hg : g.method = m) (hsize : g.locals.size = c.maxLocals) {argsL rest : List Value} (hlen : ∀ sig, parseMethodDescriptor y.desc = some sig → argsL.length = sig.parameters.length) (hstack : g.stack = argsL.reverse ++ .ref a :: rest) (has : (.ref a :: argsL).toArray = as') {W : Nat} (hW : 2 * g.monitorRoom + (rest.map fun v => v.category).sum ≤ W) (hdg : decode c.code g.pc = .ok (.invokevirtual index, 3))
    (hf : fr + 1 ≤ R.frames) (hl : W + (maxL + 11) + lo ≤ R.locals) (hc : cells ≤ R.cells) (hs : slots ≤ R.slots)
    (k : ∀ T', Stand p l e R s m args below meth c T' locs cells slots → T'.heap = h → own_End p e below P T' { g with pc := g.pc + 3, stack := val.toList ++ rest }) : own_End p e below P T g :=
  own_callV X hx hZ hown eT w1 wd hnf wsel w2 w3 w4 hy hM E hg hsize hlen hstack has hW hdg hf hl hc hs fun v T' L X' ⟨q1, q2, q3⟩ => by
    subst q1 q2
    rw [List.append_nil] at X'
    exact k T' X' q3
theorem own_callPp (X : Stand p l e R s m args below meth c T locs cells slots) (hx : p.tables.exec = Jvm.exec) (hZ : Z.Warmed39 s.vm) {own : String} (hown : s.vm.findClass own = some m.cls) (eT : T.heap = h) {index : Nat} {y : MethodName} {bytes : ByteArray} {maxL : Nat} {ret : Option FieldType} {fr lo : Nat} {as' : Array Value} {val : Option Value}
    (w1 : (Cond.methodLink own index y).before a0 Z = true) (w2 : (Cond.instanceMethod y).before a0 Z = true) (wsel : (Cond.selects y.cls y y).before args s = true) (wp : (Cond.privateMethod y).before a0 Z = true) (w3 : (Cond.initialized y.cls).before a0 Z = true) (w4 : (Cond.code y bytes maxL ret).before a0 Z = true) (hy : y.cls ≠ "java/lang/invoke/MethodHandle" ∧ y.cls ≠ "java/lang/invoke/VarHandle")
    (hM : own_Met l Z y bytes maxL ret [] { frames := fr, cells := 0, slots := 0, locals := lo } as' h (own_Pq val h)) {C : String} {a : Addr} (E : Exa Z h a C) {g : JFrame} (hg : g.method = m) (hsize : g.locals.size = c.maxLocals) {argsL rest : List Value} (hlen : ∀ sig, parseMethodDescriptor y.desc = some sig → argsL.length = sig.parameters.length) (hstack : g.stack = argsL.reverse ++ .ref a :: rest) (has : (.ref a :: argsL).toArray = as') {W : Nat} (hW : 2 * g.monitorRoom + (rest.map fun v => v.category).sum ≤ W) (hdg : decode c.code g.pc = .ok (.invokevirtual index, 3))
    (hf : fr + 1 ≤ R.frames) (hl : W + (maxL + 11) + lo ≤ R.locals) (hc : cells ≤ R.cells) (hs : slots ≤ R.slots)
    (k : ∀ T', Stand p l e R s m args below meth c T' locs cells slots → T'.heap = h → own_End p e below P T' { g with pc := g.pc + 3, stack := val.toList ++ rest }) : own_End p e below P T g :=
  own_callP X hx hZ hown eT w1 w2 wsel wp w3 w4 hy hM E hg hsize hlen hstack has hW hdg hf hl hc hs fun v T' L X' ⟨q1, q2, q3⟩ => by
    subst q1 q2
    rw [List.append_nil] at X'
    exact k T' X' q3
end OwnPure
/-! own: a cell that is known -/
def own_K (h : Heap) (a : Addr) : Prop := ∃ cell : Cell, h[a]? = some cell ∧ cell.vm ≠ .unknown
theorem own_K_ext {h h' : Heap} {a : Addr} (K : own_K h a) (E : Ext h h') : own_K h' a := by obtain ⟨c, h1, h2⟩ := K; exact ⟨c, E.2 _ _ h1, h2⟩
theorem own_K_wr {h h' : Heap} {a b : Addr} {sl : Nat} {v : Value} (K : own_K h b) (W : Wr h h' a sl v) : own_K h' b := by
  obtain ⟨c, h1, h2⟩ := K
  obtain ⟨c', e1, -, e3, -⟩ := wr_at W h1
  exact ⟨c', e1, by rw [e3]; exact h2⟩
theorem own_K_keep {h h' : Heap} {a : Addr} {ws : List Addr} (K : own_K h a) (E : Keep h h' ws) : own_K h' a := by
  obtain ⟨c, h1, h2⟩ := K
  obtain ⟨c', e1, -, e3, -⟩ := E.2.2 _ _ h1
  exact ⟨c', e1, by rw [e3]; exact h2⟩
theorem own_K_new {h : Heap} {a : Addr} (U : ∃ cell : Cell, h[a]? = some cell ∧ cell.vm = .none ∧ cell.monitor = {}) : own_K h a := by
  obtain ⟨c, h1, h2, -⟩ := U
  exact ⟨c, h1, by rw [h2]; simp⟩

abbrev own_held (w b l : Int64) : Prop := ¬ w < b ∧ ¬ l < w
theorem own_mx (w : Int64) : ¬ (9223372036854775807 : Int64) < w := by
  have h := w.toInt_lt
  obtain ⟨k, hk⟩ : ∃ k, k = (9223372036854775807 : Int64) := ⟨_, rfl⟩
  have e : k.toInt = 9223372036854775807 := by rw [hk]; decide
  rw [← hk, Int64.lt_iff_toInt_lt, e]; omega
theorem own_mn (w : Int64) : ¬ w < (-9223372036854775808 : Int64) := by
  have h := w.le_toInt
  obtain ⟨k, hk⟩ : ∃ k, k = (-9223372036854775808 : Int64) := ⟨_, rfl⟩
  have e : k.toInt = -9223372036854775808 := by rw [hk]; decide
  rw [← hk, Int64.lt_iff_toInt_lt, e]; omega
theorem own_h1 {w b l : Int64} (h : own_held w b l) : own_held w b (9223372036854775807 : Int64) := ⟨h.1, own_mx w⟩
theorem own_h2 {w b l : Int64} (h : own_held w b l) : own_held w (-9223372036854775808 : Int64) l := ⟨own_mn w, h.2⟩
theorem own_h3 {w b l : Int64} (h : own_held w b (9223372036854775807 : Int64)) (g : own_held w (-9223372036854775808 : Int64) l) : own_held w b l := ⟨h.1, g.2⟩
theorem own_h4 {w b b2 : Int64} (h : ¬ b < b2) (g : own_held w b (9223372036854775807 : Int64)) : own_held w b2 (9223372036854775807 : Int64) := by
  refine ⟨?_, own_mx w⟩
  have g1 := g.1
  rw [Int64.lt_iff_toInt_lt] at *; omega
theorem own_h5 {w l l2 : Int64} (h : ¬ l2 < l) (g : own_held w (-9223372036854775808 : Int64) l) : own_held w (-9223372036854775808 : Int64) l2 := by
  refine ⟨own_mn w, ?_⟩
  have g1 := g.2
  rw [Int64.lt_iff_toInt_lt] at *; omega
theorem own_h6 (w : Int64) : own_held w w w := ⟨Int64.lt_irrefl, Int64.lt_irrefl⟩
theorem own_h7 {w : Int64} (h : ¬ w = (9223372036854775807 : Int64)) : ¬ own_held w (w + (1 : Int64)) (9223372036854775807 : Int64) := fun g => by
  have g1 := g.1
  have h2 : w.toInt ≠ 9223372036854775807 := fun q => h (Int64.toInt_inj.mp (by rw [q]; decide))
  have h3 := w.toInt_lt
  have h4 := w.le_toInt
  have e : (w + 1).toInt = w.toInt + 1 := Jvm.Kit.i64_add (y := 1) (by rw [show (1 : Int64).toInt = 1 from rfl]; omega) (by rw [show (1 : Int64).toInt = 1 from rfl]; omega)
  rw [Int64.lt_iff_toInt_lt, e] at g1; omega
theorem own_h8 {w : Int64} (h : ¬ w = (-9223372036854775808 : Int64)) : ¬ own_held w (-9223372036854775808 : Int64) (w - (1 : Int64)) := fun g => by
  have g1 := g.2
  have h2 : w.toInt ≠ -9223372036854775808 := fun q => h (Int64.toInt_inj.mp (by rw [q]; decide))
  have h3 := w.toInt_lt
  have h4 := w.le_toInt
  have e : (w - 1).toInt = w.toInt - 1 := Jvm.Kit.i64_sub (y := 1) (by rw [show (1 : Int64).toInt = 1 from rfl]; omega) (by rw [show (1 : Int64).toInt = 1 from rfl]; omega)
  rw [Int64.lt_iff_toInt_lt, e] at g1; omega

theorem pn_0 : plainName "java/lang/Record" = true := by first | (simp [plainName, overriddenIn]; done) | decide +kernel
theorem d2_0 : decode jdk_30_method_1_code 0 = .ok (.aload_n 0, 1) := by decide +kernel
theorem d2_1 : decode jdk_30_method_1_code 1 = .ok (.invokespecial 1, 3) := by decide +kernel
theorem d2_4 : decode jdk_30_method_1_code 4 = .ok (.return_, 1) := by decide +kernel
set_option maxRecDepth 65536 in
set_option maxHeartbeats 4000000 in
theorem ef_2 (m : MethodId) (a0 : Addr) : entryFrame m #[(.ref a0)] 1 = mkF m 0 #[.val (.ref a0)] [] := by first | (simp [entryFrame, mkF, argsToLocals, Value.category]; done) | rfl
set_option maxRecDepth 65536 in
set_option maxHeartbeats 40000000 in
theorem rm2 (l : Launch) (Z : State) (aw : Array Value) (hw : ∀ d ∈ tables_1, d.before aw Z = true) {ws : List Jvm.Cond} (a0 : Addr)  (h0 : Heap) (n0 : Nat) (Z0 : n0 ≤ h0.size)  :
    own_Met l Z (⟨"java/lang/Record", "<init>", "()V"⟩ : MethodName) jdk_30_method_1_code 1 none ws ({ frames := 1, cells := 0, slots := 0, locals := 12 } : Room) #[(.ref a0)] h0 (own_Pq none h0) := by
  refine own_body (plainFor_of_name pn_0) ?_
  intro p e s m below meth c s₁ hx hZ hby hml hown hnm hret hlk X0 e0
  replace hown : s.vm.findClass "java/lang/Record" = some m.cls := hown
  replace hml : c.maxLocals = 1 := hml
  obtain ⟨P, hP⟩ : ∃ P, P = own_P below s (own_Pq none h0) ({ frames := 1, cells := 0, slots := 0, locals := 12 } : Room).cells ({ frames := 1, cells := 0, slots := 0, locals := 12 } : Room).slots := ⟨_, rfl⟩
  rw [← hP]
  refine own_cast (ef_2 m a0) ?_
  refine own_go (T' := s₁) (f' := (mkF m 1 #[.val (.ref a0)] [(.ref a0)])) (fun t kt => ?_) ?_
  · show Steps p.tables e below (s₁.setTop (mkF m 0 #[.val (.ref a0)] [])) t
    refine XS.aloadN X0.here hx rfl (hb hby d2_0) rfl rfl ?_
    show Steps p.tables e below (s₁.setTop (mkF m 1 #[.val (.ref a0)] [(.ref a0)])) t
    exact kt
  obtain ⟨T1, X1, e1, st1⟩ := initO X0 hx hZ hown (hw _ (List.mem_of_getElem? (i := 11) rfl)) (hw _ (List.mem_of_getElem? (i := 12) rfl)) (hw _ (List.mem_of_getElem? (i := 13) rfl)) e0 (g := (mkF m 1 #[.val (.ref a0)] [(.ref a0)])) rfl (by rw [hml]; rfl) rfl (hb hby d2_1) (by decide) (W := 0) (by show 2 * 0 + _ ≤ _; exact Nat.le_of_eq rfl) (by decide)
  refine own_go st1 ?_
  exact own_retV X1 hP hx hlk e1 hret (hb hby d2_4) (by decide) (by decide) ⟨rfl, rfl, rfl⟩
theorem pd_0 : parseMethodDescriptor "()V" = some ⟨[], none⟩ := by decide +kernel
theorem pn_1 : plainName "com/example/commit_log_store/commitlogstore/io/OffsetIndex$Entry" = true := by first | (simp [plainName, overriddenIn]; done) | decide +kernel
theorem d1_0 : decode prog_40_method_1_code 0 = .ok (.aload_n 0, 1) := by decide +kernel
theorem d1_1 : decode prog_40_method_1_code 1 = .ok (.invokespecial 1, 3) := by decide +kernel
theorem d1_4 : decode prog_40_method_1_code 4 = .ok (.aload_n 0, 1) := by decide +kernel
theorem d1_5 : decode prog_40_method_1_code 5 = .ok (.lload_n 1, 1) := by decide +kernel
theorem d1_6 : decode prog_40_method_1_code 6 = .ok (.putfield 7, 3) := by decide +kernel
theorem d1_9 : decode prog_40_method_1_code 9 = .ok (.aload_n 0, 1) := by decide +kernel
theorem d1_10 : decode prog_40_method_1_code 10 = .ok (.lload_n 3, 1) := by decide +kernel
theorem d1_11 : decode prog_40_method_1_code 11 = .ok (.putfield 13, 3) := by decide +kernel
theorem d1_14 : decode prog_40_method_1_code 14 = .ok (.return_, 1) := by decide +kernel
set_option maxRecDepth 65536 in
set_option maxHeartbeats 4000000 in
theorem ef_1 (m : MethodId) (a0 : Addr) (q1 : Int64) (q2 : Int64) : entryFrame m #[(.ref a0), (.long q1), (.long q2)] 5 = mkF m 0 #[.val (.ref a0), .val (.long q1), .second, .val (.long q2), .second] [] := by first | (simp [entryFrame, mkF, argsToLocals, Value.category]; done) | rfl
set_option maxRecDepth 65536 in
set_option maxHeartbeats 40000000 in
theorem rm1 (l : Launch) (Z : State) (aw : Array Value) (hw : ∀ d ∈ tables_1, d.before aw Z = true) {ws : List Jvm.Cond} (a0 : Addr) (q1 : Int64) (q2 : Int64)  (h0 : Heap) (n0 : Nat) (Z0 : n0 ≤ h0.size) (E_a0 : Exa Z h0 a0 "com/example/commit_log_store/commitlogstore/io/OffsetIndex$Entry") (K_a0 : own_K h0 a0) (g_a0 : n0 ≤ a0) :
    own_Met l Z (⟨"com/example/commit_log_store/commitlogstore/io/OffsetIndex$Entry", "<init>", "(JJ)V"⟩ : MethodName) prog_40_method_1_code 5 none ws ({ frames := 2, cells := 0, slots := 0, locals := 24 } : Room) #[(.ref a0), (.long q1), (.long q2)] h0 (fun v h L => v = none ∧ Fr n0 L ∧ Keep h0 h [a0] ∧ Exa Z h a0 "com/example/commit_log_store/commitlogstore/io/OffsetIndex$Entry" ∧ Fld Z h a0 "com/example/commit_log_store/commitlogstore/io/OffsetIndex$Entry" "offset" "J" (.long q1) ∧ Fld Z h a0 "com/example/commit_log_store/commitlogstore/io/OffsetIndex$Entry" "position" "J" (.long q2)) := by
  refine own_body (plainFor_of_name pn_1) ?_
  intro p e s m below meth c s₁ hx hZ hby hml hown hnm hret hlk X0 e0
  replace hown : s.vm.findClass "com/example/commit_log_store/commitlogstore/io/OffsetIndex$Entry" = some m.cls := hown
  replace hml : c.maxLocals = 5 := hml
  have N0 := Fr.nil n0
  have K0 := Keep.refl h0 [a0]
  obtain ⟨P, hP⟩ : ∃ P, P = own_P below s (fun v h L => v = none ∧ Fr n0 L ∧ Keep h0 h [a0] ∧ Exa Z h a0 "com/example/commit_log_store/commitlogstore/io/OffsetIndex$Entry" ∧ Fld Z h a0 "com/example/commit_log_store/commitlogstore/io/OffsetIndex$Entry" "offset" "J" (.long q1) ∧ Fld Z h a0 "com/example/commit_log_store/commitlogstore/io/OffsetIndex$Entry" "position" "J" (.long q2)) ({ frames := 2, cells := 0, slots := 0, locals := 24 } : Room).cells ({ frames := 2, cells := 0, slots := 0, locals := 24 } : Room).slots := ⟨_, rfl⟩
  rw [← hP]
  refine own_cast (ef_1 m a0 q1 q2) ?_
  refine own_go (T' := s₁) (f' := (mkF m 1 #[.val (.ref a0), .val (.long q1), .second, .val (.long q2), .second] [(.ref a0)])) (fun t kt => ?_) ?_
  · show Steps p.tables e below (s₁.setTop (mkF m 0 #[.val (.ref a0), .val (.long q1), .second, .val (.long q2), .second] [])) t
    refine XS.aloadN X0.here hx rfl (hb hby d1_0) rfl rfl ?_
    show Steps p.tables e below (s₁.setTop (mkF m 1 #[.val (.ref a0), .val (.long q1), .second, .val (.long q2), .second] [(.ref a0)])) t
    exact kt
  refine own_callCp X0 hx hZ hown e0 rfl (hw _ (List.mem_of_getElem? (i := 6) rfl)) (hw _ (List.mem_of_getElem? (i := 7) rfl)) (hw _ (List.mem_of_getElem? (i := 9) rfl)) (hw _ (List.mem_of_getElem? (i := 10) rfl)) (by decide) (rm2 l Z aw hw a0 h0 n0 Z0) (g := (mkF m 1 #[.val (.ref a0), .val (.long q1), .second, .val (.long q2), .second] [(.ref a0)])) rfl (by rw [hml]; rfl) (argsL := []) (rest := []) (lenOf pd_0 rfl) rfl rfl (W := 0) (by show 2 * 0 + _ ≤ _; exact Nat.le_of_eq rfl) (hb hby d1_1) (by decide) (by decide) (by decide) (by decide) ?_
  intro T1 X1 e1
  refine own_go (T' := T1) (f' := (mkF m 6 #[.val (.ref a0), .val (.long q1), .second, .val (.long q2), .second] [(.long q1), (.ref a0)])) (fun t kt => ?_) ?_
  · show Steps p.tables e below (T1.setTop (mkF m 4 #[.val (.ref a0), .val (.long q1), .second, .val (.long q2), .second] [])) t
    refine XS.aloadN X1.here hx rfl (hb hby d1_4) rfl rfl ?_
    show Steps p.tables e below (T1.setTop (mkF m 5 #[.val (.ref a0), .val (.long q1), .second, .val (.long q2), .second] [(.ref a0)])) t
    refine XS.lloadN X1.here hx rfl (hb hby d1_5) rfl ?_
    show Steps p.tables e below (T1.setTop (mkF m 6 #[.val (.ref a0), .val (.long q1), .second, .val (.long q2), .second] [(.long q1), (.ref a0)])) t
    exact kt
  obtain ⟨uv2, F2_offset⟩ := fld_laid E_a0 K_a0 (hw _ (List.mem_of_getElem? (i := 1) rfl)) (Or.inr (hw _ (List.mem_of_getElem? (i := 15) rfl)))
  obtain ⟨T2, h2, X2, e2, W2, st2⟩ := putF X1 hx hZ hown (host := "") (Or.inl (hw _ (List.mem_of_getElem? (i := 14) rfl))) Via.refl e1 F2_offset E_a0 (Or.inr ⟨(hw _ (List.mem_of_getElem? (i := 15) rfl)), rfl, hnm⟩) (hw _ (List.mem_of_getElem? (i := 1) rfl)) (ty := .long) (by decide) rfl rfl (g := (mkF m 6 #[.val (.ref a0), .val (.long q1), .second, .val (.long q2), .second] [(.long q1), (.ref a0)])) rfl rfl (hb hby d1_6)
  refine own_go st2 ?_
  replace E_a0 := (E_a0.wr W2)
  replace F2_offset := (F2_offset.same W2)
  replace K_a0 := own_K_wr K_a0 W2
  have N2 := Fr.snoc X2 N0 g_a0
  have Z2 : n0 ≤ h2.size := Nat.le_trans Z0 (Keep.of_wr W2).1
  have KK2 := K0.wr W2 (Or.inl (by simp))
  refine own_go (T' := T2) (f' := (mkF m 11 #[.val (.ref a0), .val (.long q1), .second, .val (.long q2), .second] [(.long q2), (.ref a0)])) (fun t kt => ?_) ?_
  · show Steps p.tables e below (T2.setTop (mkF m 9 #[.val (.ref a0), .val (.long q1), .second, .val (.long q2), .second] [])) t
    refine XS.aloadN X2.here hx rfl (hb hby d1_9) rfl rfl ?_
    show Steps p.tables e below (T2.setTop (mkF m 10 #[.val (.ref a0), .val (.long q1), .second, .val (.long q2), .second] [(.ref a0)])) t
    refine XS.lloadN X2.here hx rfl (hb hby d1_10) rfl ?_
    show Steps p.tables e below (T2.setTop (mkF m 11 #[.val (.ref a0), .val (.long q1), .second, .val (.long q2), .second] [(.long q2), (.ref a0)])) t
    exact kt
  obtain ⟨uv3, F3_position⟩ := fld_laid E_a0 K_a0 (hw _ (List.mem_of_getElem? (i := 1) rfl)) (Or.inr (hw _ (List.mem_of_getElem? (i := 17) rfl)))
  obtain ⟨T3, h3, X3, e3, W3, st3⟩ := putF X2 hx hZ hown (host := "") (Or.inl (hw _ (List.mem_of_getElem? (i := 16) rfl))) Via.refl e2 F3_position E_a0 (Or.inr ⟨(hw _ (List.mem_of_getElem? (i := 17) rfl)), rfl, hnm⟩) (hw _ (List.mem_of_getElem? (i := 1) rfl)) (ty := .long) (by decide) rfl rfl (g := (mkF m 11 #[.val (.ref a0), .val (.long q1), .second, .val (.long q2), .second] [(.long q2), (.ref a0)])) rfl rfl (hb hby d1_11)
  refine own_go st3 ?_
  replace E_a0 := (E_a0.wr W3)
  replace F2_offset := (F2_offset.other W3 (Or.inr (slot_ne (Or.inr (hw _ (List.mem_of_getElem? (i := 15) rfl))) (Or.inr (hw _ (List.mem_of_getElem? (i := 17) rfl))) (by decide) (t := .long) (t' := .long) (by decide) (by decide))))
  replace F3_position := (F3_position.same W3)
  replace K_a0 := own_K_wr K_a0 W3
  have N3 := Fr.snoc X3 N2 g_a0
  have Z3 : n0 ≤ h3.size := Nat.le_trans Z2 (Keep.of_wr W3).1
  have KK3 := KK2.wr W3 (Or.inl (by simp))
  exact own_retV X3 hP hx hlk e3 hret (hb hby d1_14) (by decide) (by decide) ⟨rfl, N3, KK3, E_a0, F2_offset, F3_position⟩
theorem d4_0 : decode prog_40_method_2_code 0 = .ok (.aload_n 0, 1) := by decide +kernel
theorem d4_1 : decode prog_40_method_2_code 1 = .ok (.getfield 7, 3) := by decide +kernel
theorem d4_4 : decode prog_40_method_2_code 4 = .ok (.lload_n 1, 1) := by decide +kernel
theorem d4_5 : decode prog_40_method_2_code 5 = .ok (.lcmp, 1) := by decide +kernel
theorem d4_6 : decode prog_40_method_2_code 6 = .ok (.ifCond .lt 16, 3) := by decide +kernel
theorem d4_9 : decode prog_40_method_2_code 9 = .ok (.aload_n 0, 1) := by decide +kernel
theorem d4_10 : decode prog_40_method_2_code 10 = .ok (.getfield 7, 3) := by decide +kernel
theorem d4_13 : decode prog_40_method_2_code 13 = .ok (.lload_n 3, 1) := by decide +kernel
theorem d4_14 : decode prog_40_method_2_code 14 = .ok (.lcmp, 1) := by decide +kernel
theorem d4_15 : decode prog_40_method_2_code 15 = .ok (.ifCond .gt 7, 3) := by decide +kernel
theorem d4_18 : decode prog_40_method_2_code 18 = .ok (.iconst 1, 1) := by decide +kernel
theorem d4_19 : decode prog_40_method_2_code 19 = .ok (.goto 4, 3) := by decide +kernel
theorem d4_22 : decode prog_40_method_2_code 22 = .ok (.iconst 0, 1) := by decide +kernel
theorem d4_23 : decode prog_40_method_2_code 23 = .ok (.ireturn, 1) := by decide +kernel
set_option maxRecDepth 65536 in
set_option maxHeartbeats 4000000 in
theorem ef_4 (m : MethodId) (a0 : Addr) (q1 : Int64) (q2 : Int64) : entryFrame m #[(.ref a0), (.long q1), (.long q2)] 5 = mkF m 0 #[.val (.ref a0), .val (.long q1), .second, .val (.long q2), .second] [] := by first | (simp [entryFrame, mkF, argsToLocals, Value.category]; done) | rfl
set_option maxRecDepth 65536 in
set_option maxHeartbeats 40000000 in
theorem rm4 (l : Launch) (Z : State) (aw : Array Value) (hw : ∀ d ∈ tables_1, d.before aw Z = true) {ws : List Jvm.Cond} (a0 : Addr) (q1 : Int64) (q2 : Int64) (w0 : Int64) (h0 : Heap) (n0 : Nat) (Z0 : n0 ≤ h0.size) (F_a0_offset : Fld Z h0 a0 "com/example/commit_log_store/commitlogstore/io/OffsetIndex$Entry" "offset" "J" (.long w0)) :
    own_Met l Z (⟨"com/example/commit_log_store/commitlogstore/io/OffsetIndex$Entry", "isHeldBy", "(JJ)Z"⟩ : MethodName) prog_40_method_2_code 5 (some .boolean) ws ({ frames := 0, cells := 0, slots := 0, locals := 0 } : Room) #[(.ref a0), (.long q1), (.long q2)] h0 (own_Pq (some (.int (own_z (own_held w0 q1 q2)))) h0) := by
  refine own_body (plainFor_of_name pn_1) ?_
  intro p e s m below meth c s₁ hx hZ hby hml hown hnm hret hlk X0 e0
  replace hown : s.vm.findClass "com/example/commit_log_store/commitlogstore/io/OffsetIndex$Entry" = some m.cls := hown
  replace hml : c.maxLocals = 5 := hml
  obtain ⟨P, hP⟩ : ∃ P, P = own_P below s (own_Pq (some (.int (own_z (own_held w0 q1 q2)))) h0) ({ frames := 0, cells := 0, slots := 0, locals := 0 } : Room).cells ({ frames := 0, cells := 0, slots := 0, locals := 0 } : Room).slots := ⟨_, rfl⟩
  rw [← hP]
  refine own_cast (ef_4 m a0 q1 q2) ?_
  refine own_go (T' := s₁) (f' := (mkF m 1 #[.val (.ref a0), .val (.long q1), .second, .val (.long q2), .second] [(.ref a0)])) (fun t kt => ?_) ?_
  · show Steps p.tables e below (s₁.setTop (mkF m 0 #[.val (.ref a0), .val (.long q1), .second, .val (.long q2), .second] [])) t
    refine XS.aloadN X0.here hx rfl (hb hby d4_0) rfl rfl ?_
    show Steps p.tables e below (s₁.setTop (mkF m 1 #[.val (.ref a0), .val (.long q1), .second, .val (.long q2), .second] [(.ref a0)])) t
    exact kt
  obtain ⟨T1, X1, e1, st1⟩ := getF X0 hx hZ hown (host := "") (Or.inl (hw _ (List.mem_of_getElem? (i := 14) rfl))) Via.refl e0 F_a0_offset (g := (mkF m 1 #[.val (.ref a0), .val (.long q1), .second, .val (.long q2), .second] [(.ref a0)])) rfl rfl (hb hby d4_1)
  refine own_go st1 ?_
  refine own_go (T' := T1) (f' := (mkF m 6 #[.val (.ref a0), .val (.long q1), .second, .val (.long q2), .second] [(.int (lcmpW w0 q1))])) (fun t kt => ?_) ?_
  · show Steps p.tables e below (T1.setTop (mkF m 4 #[.val (.ref a0), .val (.long q1), .second, .val (.long q2), .second] [(.long w0)])) t
    refine XS.lloadN X1.here hx rfl (hb hby d4_4) rfl ?_
    show Steps p.tables e below (T1.setTop (mkF m 5 #[.val (.ref a0), .val (.long q1), .second, .val (.long q2), .second] [(.long q1), (.long w0)])) t
    refine XS.lcmp X1.here hx rfl (hb hby d4_5) rfl ?_
    show Steps p.tables e below (T1.setTop (mkF m 6 #[.val (.ref a0), .val (.long q1), .second, .val (.long q2), .second] [(.int (lcmpW w0 q1))])) t
    exact kt
  by_cases hc6_2 : w0 < q1
  · refine own_go (T' := T1) (f' := (mkF m 23 #[.val (.ref a0), .val (.long q1), .second, .val (.long q2), .second] [(.int (0 : Int32))])) (fun t kt => ?_) ?_
    · show Steps p.tables e below (T1.setTop (mkF m 6 #[.val (.ref a0), .val (.long q1), .second, .val (.long q2), .second] [(.int (lcmpW w0 q1))])) t
      refine XS.ifYes X1.here hx rfl (pc0 := 6) (pc' := 22) rfl (hb hby d4_6) rfl (own_lY_lt hc6_2) (by decide) (by decide) ?_
      show Steps p.tables e below (T1.setTop (mkF m 22 #[.val (.ref a0), .val (.long q1), .second, .val (.long q2), .second] [])) t
      refine XS.iconst X1.here hx rfl (hb hby d4_22) ?_
      show Steps p.tables e below (T1.setTop (mkF m 23 #[.val (.ref a0), .val (.long q1), .second, .val (.long q2), .second] [(.int (0 : Int32))])) t
      exact kt
    exact own_retN X1 hP hx hlk e1 (t := .boolean) hret (by simp) (hb hby d4_23) (by decide) (by decide) (z' := (0 : Int32)) (by decide) ⟨(congrArg (fun w => some (Value.int w)) (own_z_f (by simp [own_held, hc6_2])).symm), rfl, rfl⟩
  · refine own_go (T' := T1) (f' := (mkF m 10 #[.val (.ref a0), .val (.long q1), .second, .val (.long q2), .second] [(.ref a0)])) (fun t kt => ?_) ?_
    · show Steps p.tables e below (T1.setTop (mkF m 6 #[.val (.ref a0), .val (.long q1), .second, .val (.long q2), .second] [(.int (lcmpW w0 q1))])) t
      refine XS.ifNo X1.here hx rfl (hb hby d4_6) rfl (own_lN_lt hc6_2) ?_
      show Steps p.tables e below (T1.setTop (mkF m 9 #[.val (.ref a0), .val (.long q1), .second, .val (.long q2), .second] [])) t
      refine XS.aloadN X1.here hx rfl (hb hby d4_9) rfl rfl ?_
      show Steps p.tables e below (T1.setTop (mkF m 10 #[.val (.ref a0), .val (.long q1), .second, .val (.long q2), .second] [(.ref a0)])) t
      exact kt
    obtain ⟨T3, X3, e3, st3⟩ := getF X1 hx hZ hown (host := "") (Or.inl (hw _ (List.mem_of_getElem? (i := 14) rfl))) Via.refl e1 F_a0_offset (g := (mkF m 10 #[.val (.ref a0), .val (.long q1), .second, .val (.long q2), .second] [(.ref a0)])) rfl rfl (hb hby d4_10)
    refine own_go st3 ?_
    refine own_go (T' := T3) (f' := (mkF m 15 #[.val (.ref a0), .val (.long q1), .second, .val (.long q2), .second] [(.int (lcmpW w0 q2))])) (fun t kt => ?_) ?_
    · show Steps p.tables e below (T3.setTop (mkF m 13 #[.val (.ref a0), .val (.long q1), .second, .val (.long q2), .second] [(.long w0)])) t
      refine XS.lloadN X3.here hx rfl (hb hby d4_13) rfl ?_
      show Steps p.tables e below (T3.setTop (mkF m 14 #[.val (.ref a0), .val (.long q1), .second, .val (.long q2), .second] [(.long q2), (.long w0)])) t
      refine XS.lcmp X3.here hx rfl (hb hby d4_14) rfl ?_
      show Steps p.tables e below (T3.setTop (mkF m 15 #[.val (.ref a0), .val (.long q1), .second, .val (.long q2), .second] [(.int (lcmpW w0 q2))])) t
      exact kt
    by_cases hc15_4 : q2 < w0
    · refine own_go (T' := T3) (f' := (mkF m 23 #[.val (.ref a0), .val (.long q1), .second, .val (.long q2), .second] [(.int (0 : Int32))])) (fun t kt => ?_) ?_
      · show Steps p.tables e below (T3.setTop (mkF m 15 #[.val (.ref a0), .val (.long q1), .second, .val (.long q2), .second] [(.int (lcmpW w0 q2))])) t
        refine XS.ifYes X3.here hx rfl (pc0 := 15) (pc' := 22) rfl (hb hby d4_15) rfl (own_lY_gt hc15_4) (by decide) (by decide) ?_
        show Steps p.tables e below (T3.setTop (mkF m 22 #[.val (.ref a0), .val (.long q1), .second, .val (.long q2), .second] [])) t
        refine XS.iconst X3.here hx rfl (hb hby d4_22) ?_
        show Steps p.tables e below (T3.setTop (mkF m 23 #[.val (.ref a0), .val (.long q1), .second, .val (.long q2), .second] [(.int (0 : Int32))])) t
        exact kt
      exact own_retN X3 hP hx hlk e3 (t := .boolean) hret (by simp) (hb hby d4_23) (by decide) (by decide) (z' := (0 : Int32)) (by decide) ⟨(congrArg (fun w => some (Value.int w)) (own_z_f (by simp [own_held, hc6_2, hc15_4])).symm), rfl, rfl⟩
    · refine own_go (T' := T3) (f' := (mkF m 23 #[.val (.ref a0), .val (.long q1), .second, .val (.long q2), .second] [(.int (1 : Int32))])) (fun t kt => ?_) ?_
      · show Steps p.tables e below (T3.setTop (mkF m 15 #[.val (.ref a0), .val (.long q1), .second, .val (.long q2), .second] [(.int (lcmpW w0 q2))])) t
        refine XS.ifNo X3.here hx rfl (hb hby d4_15) rfl (own_lN_gt hc15_4) ?_
        show Steps p.tables e below (T3.setTop (mkF m 18 #[.val (.ref a0), .val (.long q1), .second, .val (.long q2), .second] [])) t
        refine XS.iconst X3.here hx rfl (hb hby d4_18) ?_
        show Steps p.tables e below (T3.setTop (mkF m 19 #[.val (.ref a0), .val (.long q1), .second, .val (.long q2), .second] [(.int (1 : Int32))])) t
        refine XS.goto X3.here hx rfl (pc0 := 19) (pc' := 23) rfl (hb hby d4_19) (by decide) (by decide) ?_
        show Steps p.tables e below (T3.setTop (mkF m 23 #[.val (.ref a0), .val (.long q1), .second, .val (.long q2), .second] [(.int (1 : Int32))])) t
        exact kt
      exact own_retN X3 hP hx hlk e3 (t := .boolean) hret (by simp) (hb hby d4_23) (by decide) (by decide) (z' := (1 : Int32)) (by decide) ⟨(congrArg (fun w => some (Value.int w)) (own_z_t (by simp [own_held, hc6_2, hc15_4])).symm), rfl, rfl⟩
theorem pd_1 : parseMethodDescriptor "(JJ)V" = some ⟨[.long, .long], none⟩ := by decide +kernel
theorem pd_2 : parseMethodDescriptor "(JJ)Z" = some ⟨[.long, .long], some .boolean⟩ := by decide +kernel
theorem pn_2 : plainName "com/example/commit_log_store/commitlogstore/io/EntryIsHeldByPinLaw" = true := by first | (simp [plainName, overriddenIn]; done) | decide +kernel
set_option maxRecDepth 65536 in
set_option maxHeartbeats 4000000 in
theorem ef_0 (m : MethodId) (q0 : Int64) (q1 : Int64) (q2 : Int64) (q3 : Int64) (q4 : Int64) (q5 : Int64) : entryFrame m #[(.long q0), (.long q1), (.long q2), (.long q3), (.long q4), (.long q5)] maxLocals = mkF m 0 #[.val (.long q0), .second, .val (.long q1), .second, .val (.long q2), .second, .val (.long q3), .second, .val (.long q4), .second, .val (.long q5), .second, .unset, .unset, .unset, .unset] [] := by first | (simp [entryFrame, mkF, argsToLocals, Value.category, maxLocals]; done) | rfl
set_option maxRecDepth 65536 in
set_option maxHeartbeats 40000000 in
theorem rm0 (l : Launch) (Z : State) (aw : Array Value) (hw : ∀ d ∈ tables_1, d.before aw Z = true) {ws : List Jvm.Cond} (q0 : Int64) (q1 : Int64) (q2 : Int64) (q3 : Int64) (q4 : Int64) (q5 : Int64)  (h0 : Heap) (n0 : Nat) (Z0 : n0 ≤ h0.size)  :
    own_Met l Z x code maxLocals ret ws room_1 #[(.long q0), (.long q1), (.long q2), (.long q3), (.long q4), (.long q5)] h0 (fun v h L => v = some (.int 1) ∧ Fr n0 L) := by
  refine own_body (plainFor_of_name pn_2) ?_
  intro p e s m below meth c s₁ hx hZ hby hml hown hnm hret hlk X0 e0
  replace hown : s.vm.findClass "com/example/commit_log_store/commitlogstore/io/EntryIsHeldByPinLaw" = some m.cls := hown
  replace hml : c.maxLocals = 16 := hml
  have N0 := Fr.nil n0
  have K0 := Keep.refl h0 []
  obtain ⟨P, hP⟩ : ∃ P, P = own_P below s (fun v h L => v = some (.int 1) ∧ Fr n0 L) room_1.cells room_1.slots := ⟨_, rfl⟩
  rw [← hP]
  refine own_cast (ef_0 m q0 q1 q2 q3 q4 q5) ?_
  obtain ⟨T1, h1, X1, e1, E1, A1, D1, U1, st1⟩ := newO X0 hx hZ hown (hw _ (List.mem_of_getElem? (i := 0) rfl)) (hw _ (List.mem_of_getElem? (i := 1) rfl)) (hw _ (List.mem_of_getElem? (i := 2) rfl)) e0 (g := (mkF m 0 #[.val (.long q0), .second, .val (.long q1), .second, .val (.long q2), .second, .val (.long q3), .second, .val (.long q4), .second, .val (.long q5), .second, .unset, .unset, .unset, .unset] [])) rfl (hb hby at_0) (by decide) (by decide)
  obtain ⟨b1, y1⟩ : ∃ z, z = h0.size := ⟨_, rfl⟩
  rw [← y1] at A1 D1 U1 st1
  have g_b1 : n0 ≤ b1 := Nat.le_trans Z0 (Nat.le_of_eq y1.symm)
  have sz_b1 : h0.size ≤ b1 := Nat.le_trans K0.1 (Nat.le_of_eq y1.symm)
  have ZE1 : n0 ≤ h1.size := Nat.le_trans Z0 E1.1
  have KKE1 := K0.ext E1
  refine own_go st1 ?_
  have K_b1 := own_K_new U1
  refine own_go (T' := T1) (f' := (mkF m 6 #[.val (.long q0), .second, .val (.long q1), .second, .val (.long q2), .second, .val (.long q3), .second, .val (.long q4), .second, .val (.long q5), .second, .unset, .unset, .unset, .unset] [(.long q1), (.long q0), (.ref b1), (.ref b1)])) (fun t kt => ?_) ?_
  · show Steps p.tables e below (T1.setTop (mkF m 3 #[.val (.long q0), .second, .val (.long q1), .second, .val (.long q2), .second, .val (.long q3), .second, .val (.long q4), .second, .val (.long q5), .second, .unset, .unset, .unset, .unset] [(.ref b1)])) t
    refine XS.dup X1.here hx rfl (hb hby at_3) rfl rfl ?_
    show Steps p.tables e below (T1.setTop (mkF m 4 #[.val (.long q0), .second, .val (.long q1), .second, .val (.long q2), .second, .val (.long q3), .second, .val (.long q4), .second, .val (.long q5), .second, .unset, .unset, .unset, .unset] [(.ref b1), (.ref b1)])) t
    refine XS.lloadN X1.here hx rfl (hb hby at_4) rfl ?_
    show Steps p.tables e below (T1.setTop (mkF m 5 #[.val (.long q0), .second, .val (.long q1), .second, .val (.long q2), .second, .val (.long q3), .second, .val (.long q4), .second, .val (.long q5), .second, .unset, .unset, .unset, .unset] [(.long q0), (.ref b1), (.ref b1)])) t
    refine XS.lloadN X1.here hx rfl (hb hby at_5) rfl ?_
    show Steps p.tables e below (T1.setTop (mkF m 6 #[.val (.long q0), .second, .val (.long q1), .second, .val (.long q2), .second, .val (.long q3), .second, .val (.long q4), .second, .val (.long q5), .second, .unset, .unset, .unset, .unset] [(.long q1), (.long q0), (.ref b1), (.ref b1)])) t
    exact kt
  refine own_callC X1 hx hZ hown e1 rfl (hw _ (List.mem_of_getElem? (i := 3) rfl)) (hw _ (List.mem_of_getElem? (i := 4) rfl)) (hw _ (List.mem_of_getElem? (i := 2) rfl)) (hw _ (List.mem_of_getElem? (i := 5) rfl)) (by decide) (rm1 l Z aw hw b1 q0 q1 h1 n0 ZE1 A1 K_b1 g_b1) (g := (mkF m 6 #[.val (.long q0), .second, .val (.long q1), .second, .val (.long q2), .second, .val (.long q3), .second, .val (.long q4), .second, .val (.long q5), .second, .unset, .unset, .unset, .unset] [(.long q1), (.long q0), (.ref b1), (.ref b1)])) rfl (by rw [hml]; rfl) (argsL := [(.long q0), (.long q1)]) (rest := [(.ref b1)]) (lenOf pd_1 rfl) rfl rfl (W := 1) (by show 2 * 0 + _ ≤ _; exact Nat.le_of_eq rfl) (hb hby at_6) (by decide) (by decide) (by decide) (by decide) ?_
  rintro _ T2 L2 X2 ⟨rfl, Nq2, Kq2, Pq2_0, Pq2_1, Pq2_2⟩
  have N2 := Fr.app N0 Nq2
  replace A1 := (A1.keep Kq2)
  replace K_b1 := own_K_keep K_b1 Kq2
  have ZKq2 : n0 ≤ T2.heap.size := Nat.le_trans ZE1 Kq2.1
  have KKKq2 := KKE1.trans Kq2 ((allS (Or.inr sz_b1) all0))
  refine own_go (T' := T2) (f' := (mkF m 17 #[.val (.long q0), .second, .val (.long q1), .second, .val (.long q2), .second, .val (.long q3), .second, .val (.long q4), .second, .val (.long q5), .second, .val (.ref b1), .unset, .unset, .unset] [(.long q3), (.long q2), (.ref b1)])) (fun t kt => ?_) ?_
  · show Steps p.tables e below (T2.setTop (mkF m 9 #[.val (.long q0), .second, .val (.long q1), .second, .val (.long q2), .second, .val (.long q3), .second, .val (.long q4), .second, .val (.long q5), .second, .unset, .unset, .unset, .unset] [(.ref b1)])) t
    refine XS.astore X2.here hx rfl (hb hby at_9) rfl rfl (l' := #[.val (.long q0), .second, .val (.long q1), .second, .val (.long q2), .second, .val (.long q3), .second, .val (.long q4), .second, .val (.long q5), .second, .val (.ref b1), .unset, .unset, .unset]) rfl ?_
    show Steps p.tables e below (T2.setTop (mkF m 11 #[.val (.long q0), .second, .val (.long q1), .second, .val (.long q2), .second, .val (.long q3), .second, .val (.long q4), .second, .val (.long q5), .second, .val (.ref b1), .unset, .unset, .unset] [])) t
    refine XS.aload X2.here hx rfl (hb hby at_11) rfl rfl ?_
    show Steps p.tables e below (T2.setTop (mkF m 13 #[.val (.long q0), .second, .val (.long q1), .second, .val (.long q2), .second, .val (.long q3), .second, .val (.long q4), .second, .val (.long q5), .second, .val (.ref b1), .unset, .unset, .unset] [(.ref b1)])) t
    refine XS.lload X2.here hx rfl (hb hby at_13) rfl ?_
    show Steps p.tables e below (T2.setTop (mkF m 15 #[.val (.long q0), .second, .val (.long q1), .second, .val (.long q2), .second, .val (.long q3), .second, .val (.long q4), .second, .val (.long q5), .second, .val (.ref b1), .unset, .unset, .unset] [(.long q2), (.ref b1)])) t
    refine XS.lload X2.here hx rfl (hb hby at_15) rfl ?_
    show Steps p.tables e below (T2.setTop (mkF m 17 #[.val (.long q0), .second, .val (.long q1), .second, .val (.long q2), .second, .val (.long q3), .second, .val (.long q4), .second, .val (.long q5), .second, .val (.ref b1), .unset, .unset, .unset] [(.long q3), (.long q2), (.ref b1)])) t
    exact kt
  refine own_callVp X2 hx hZ hown rfl (hw _ (List.mem_of_getElem? (i := 18) rfl)) (hw _ (List.mem_of_getElem? (i := 19) rfl)) (notFace_of_selects (args := #[]) (mvT hZ (hw _ (List.mem_of_getElem? (i := 21) rfl)))) (hw _ (List.mem_of_getElem? (i := 21) rfl)) (hw _ (List.mem_of_getElem? (i := 20) rfl)) (hw _ (List.mem_of_getElem? (i := 2) rfl)) (hw _ (List.mem_of_getElem? (i := 22) rfl)) (by decide) (rm4 l Z aw hw b1 q2 q3 q0 T2.heap n0 ZKq2 Pq2_1) Pq2_0 (g := (mkF m 17 #[.val (.long q0), .second, .val (.long q1), .second, .val (.long q2), .second, .val (.long q3), .second, .val (.long q4), .second, .val (.long q5), .second, .val (.ref b1), .unset, .unset, .unset] [(.long q3), (.long q2), (.ref b1)])) rfl (by rw [hml]; rfl) (argsL := [(.long q2), (.long q3)]) (rest := []) (lenOf pd_2 rfl) rfl rfl (W := 0) (by show 2 * 0 + _ ≤ _; exact Nat.le_of_eq rfl) (hb hby at_17) (by decide) (by decide) (by decide) (by decide) ?_
  intro T3 X3 e3
  refine own_go (T' := T3) (f' := (mkF m 29 #[.val (.long q0), .second, .val (.long q1), .second, .val (.long q2), .second, .val (.long q3), .second, .val (.long q4), .second, .val (.long q5), .second, .val (.ref b1), .val (.int (own_z (own_held q0 q2 q3))), .unset, .unset] [(.long (9223372036854775807 : Int64)), (.long q2), (.ref b1)])) (fun t kt => ?_) ?_
  · show Steps p.tables e below (T3.setTop (mkF m 20 #[.val (.long q0), .second, .val (.long q1), .second, .val (.long q2), .second, .val (.long q3), .second, .val (.long q4), .second, .val (.long q5), .second, .val (.ref b1), .unset, .unset, .unset] [(.int (own_z (own_held q0 q2 q3)))])) t
    refine XS.istore X3.here hx rfl (hb hby at_20) rfl (l' := #[.val (.long q0), .second, .val (.long q1), .second, .val (.long q2), .second, .val (.long q3), .second, .val (.long q4), .second, .val (.long q5), .second, .val (.ref b1), .val (.int (own_z (own_held q0 q2 q3))), .unset, .unset]) rfl ?_
    show Steps p.tables e below (T3.setTop (mkF m 22 #[.val (.long q0), .second, .val (.long q1), .second, .val (.long q2), .second, .val (.long q3), .second, .val (.long q4), .second, .val (.long q5), .second, .val (.ref b1), .val (.int (own_z (own_held q0 q2 q3))), .unset, .unset] [])) t
    refine XS.aload X3.here hx rfl (hb hby at_22) rfl rfl ?_
    show Steps p.tables e below (T3.setTop (mkF m 24 #[.val (.long q0), .second, .val (.long q1), .second, .val (.long q2), .second, .val (.long q3), .second, .val (.long q4), .second, .val (.long q5), .second, .val (.ref b1), .val (.int (own_z (own_held q0 q2 q3))), .unset, .unset] [(.ref b1)])) t
    refine XS.lload X3.here hx rfl (hb hby at_24) rfl ?_
    show Steps p.tables e below (T3.setTop (mkF m 26 #[.val (.long q0), .second, .val (.long q1), .second, .val (.long q2), .second, .val (.long q3), .second, .val (.long q4), .second, .val (.long q5), .second, .val (.ref b1), .val (.int (own_z (own_held q0 q2 q3))), .unset, .unset] [(.long q2), (.ref b1)])) t
    refine X3.ldc2Long hx hown (mvT hZ (hw _ (List.mem_of_getElem? (i := 23) rfl))) (g := (mkF m 26 #[.val (.long q0), .second, .val (.long q1), .second, .val (.long q2), .second, .val (.long q3), .second, .val (.long q4), .second, .val (.long q5), .second, .val (.ref b1), .val (.int (own_z (own_held q0 q2 q3))), .unset, .unset] [(.long q2), (.ref b1)])) rfl (hb hby at_26) _ ?_
    show Steps p.tables e below (T3.setTop (mkF m 29 #[.val (.long q0), .second, .val (.long q1), .second, .val (.long q2), .second, .val (.long q3), .second, .val (.long q4), .second, .val (.long q5), .second, .val (.ref b1), .val (.int (own_z (own_held q0 q2 q3))), .unset, .unset] [(.long (9223372036854775807 : Int64)), (.long q2), (.ref b1)])) t
    exact kt
  refine own_callVp X3 hx hZ hown e3 (hw _ (List.mem_of_getElem? (i := 18) rfl)) (hw _ (List.mem_of_getElem? (i := 19) rfl)) (notFace_of_selects (args := #[]) (mvT hZ (hw _ (List.mem_of_getElem? (i := 21) rfl)))) (hw _ (List.mem_of_getElem? (i := 21) rfl)) (hw _ (List.mem_of_getElem? (i := 20) rfl)) (hw _ (List.mem_of_getElem? (i := 2) rfl)) (hw _ (List.mem_of_getElem? (i := 22) rfl)) (by decide) (rm4 l Z aw hw b1 q2 (9223372036854775807 : Int64) q0 T2.heap n0 ZKq2 Pq2_1) Pq2_0 (g := (mkF m 29 #[.val (.long q0), .second, .val (.long q1), .second, .val (.long q2), .second, .val (.long q3), .second, .val (.long q4), .second, .val (.long q5), .second, .val (.ref b1), .val (.int (own_z (own_held q0 q2 q3))), .unset, .unset] [(.long (9223372036854775807 : Int64)), (.long q2), (.ref b1)])) rfl (by rw [hml]; rfl) (argsL := [(.long q2), (.long (9223372036854775807 : Int64))]) (rest := []) (lenOf pd_2 rfl) rfl rfl (W := 0) (by show 2 * 0 + _ ≤ _; exact Nat.le_of_eq rfl) (hb hby at_29) (by decide) (by decide) (by decide) (by decide) ?_
  intro T4 X4 e4
  refine own_go (T' := T4) (f' := (mkF m 41 #[.val (.long q0), .second, .val (.long q1), .second, .val (.long q2), .second, .val (.long q3), .second, .val (.long q4), .second, .val (.long q5), .second, .val (.ref b1), .val (.int (own_z (own_held q0 q2 q3))), .val (.int (own_z (own_held q0 q2 (9223372036854775807 : Int64)))), .unset] [(.long q3), (.long (-9223372036854775808 : Int64)), (.ref b1)])) (fun t kt => ?_) ?_
  · show Steps p.tables e below (T4.setTop (mkF m 32 #[.val (.long q0), .second, .val (.long q1), .second, .val (.long q2), .second, .val (.long q3), .second, .val (.long q4), .second, .val (.long q5), .second, .val (.ref b1), .val (.int (own_z (own_held q0 q2 q3))), .unset, .unset] [(.int (own_z (own_held q0 q2 (9223372036854775807 : Int64))))])) t
    refine XS.istore X4.here hx rfl (hb hby at_32) rfl (l' := #[.val (.long q0), .second, .val (.long q1), .second, .val (.long q2), .second, .val (.long q3), .second, .val (.long q4), .second, .val (.long q5), .second, .val (.ref b1), .val (.int (own_z (own_held q0 q2 q3))), .val (.int (own_z (own_held q0 q2 (9223372036854775807 : Int64)))), .unset]) rfl ?_
    show Steps p.tables e below (T4.setTop (mkF m 34 #[.val (.long q0), .second, .val (.long q1), .second, .val (.long q2), .second, .val (.long q3), .second, .val (.long q4), .second, .val (.long q5), .second, .val (.ref b1), .val (.int (own_z (own_held q0 q2 q3))), .val (.int (own_z (own_held q0 q2 (9223372036854775807 : Int64)))), .unset] [])) t
    refine XS.aload X4.here hx rfl (hb hby at_34) rfl rfl ?_
    show Steps p.tables e below (T4.setTop (mkF m 36 #[.val (.long q0), .second, .val (.long q1), .second, .val (.long q2), .second, .val (.long q3), .second, .val (.long q4), .second, .val (.long q5), .second, .val (.ref b1), .val (.int (own_z (own_held q0 q2 q3))), .val (.int (own_z (own_held q0 q2 (9223372036854775807 : Int64)))), .unset] [(.ref b1)])) t
    refine X4.ldc2Long hx hown (mvT hZ (hw _ (List.mem_of_getElem? (i := 24) rfl))) (g := (mkF m 36 #[.val (.long q0), .second, .val (.long q1), .second, .val (.long q2), .second, .val (.long q3), .second, .val (.long q4), .second, .val (.long q5), .second, .val (.ref b1), .val (.int (own_z (own_held q0 q2 q3))), .val (.int (own_z (own_held q0 q2 (9223372036854775807 : Int64)))), .unset] [(.ref b1)])) rfl (hb hby at_36) _ ?_
    show Steps p.tables e below (T4.setTop (mkF m 39 #[.val (.long q0), .second, .val (.long q1), .second, .val (.long q2), .second, .val (.long q3), .second, .val (.long q4), .second, .val (.long q5), .second, .val (.ref b1), .val (.int (own_z (own_held q0 q2 q3))), .val (.int (own_z (own_held q0 q2 (9223372036854775807 : Int64)))), .unset] [(.long (-9223372036854775808 : Int64)), (.ref b1)])) t
    refine XS.lload X4.here hx rfl (hb hby at_39) rfl ?_
    show Steps p.tables e below (T4.setTop (mkF m 41 #[.val (.long q0), .second, .val (.long q1), .second, .val (.long q2), .second, .val (.long q3), .second, .val (.long q4), .second, .val (.long q5), .second, .val (.ref b1), .val (.int (own_z (own_held q0 q2 q3))), .val (.int (own_z (own_held q0 q2 (9223372036854775807 : Int64)))), .unset] [(.long q3), (.long (-9223372036854775808 : Int64)), (.ref b1)])) t
    exact kt
  refine own_callVp X4 hx hZ hown e4 (hw _ (List.mem_of_getElem? (i := 18) rfl)) (hw _ (List.mem_of_getElem? (i := 19) rfl)) (notFace_of_selects (args := #[]) (mvT hZ (hw _ (List.mem_of_getElem? (i := 21) rfl)))) (hw _ (List.mem_of_getElem? (i := 21) rfl)) (hw _ (List.mem_of_getElem? (i := 20) rfl)) (hw _ (List.mem_of_getElem? (i := 2) rfl)) (hw _ (List.mem_of_getElem? (i := 22) rfl)) (by decide) (rm4 l Z aw hw b1 (-9223372036854775808 : Int64) q3 q0 T2.heap n0 ZKq2 Pq2_1) Pq2_0 (g := (mkF m 41 #[.val (.long q0), .second, .val (.long q1), .second, .val (.long q2), .second, .val (.long q3), .second, .val (.long q4), .second, .val (.long q5), .second, .val (.ref b1), .val (.int (own_z (own_held q0 q2 q3))), .val (.int (own_z (own_held q0 q2 (9223372036854775807 : Int64)))), .unset] [(.long q3), (.long (-9223372036854775808 : Int64)), (.ref b1)])) rfl (by rw [hml]; rfl) (argsL := [(.long (-9223372036854775808 : Int64)), (.long q3)]) (rest := []) (lenOf pd_2 rfl) rfl rfl (W := 0) (by show 2 * 0 + _ ≤ _; exact Nat.le_of_eq rfl) (hb hby at_41) (by decide) (by decide) (by decide) (by decide) ?_
  intro T5 X5 e5
  refine own_go (T' := T5) (f' := (mkF m 46 #[.val (.long q0), .second, .val (.long q1), .second, .val (.long q2), .second, .val (.long q3), .second, .val (.long q4), .second, .val (.long q5), .second, .val (.ref b1), .val (.int (own_z (own_held q0 q2 q3))), .val (.int (own_z (own_held q0 q2 (9223372036854775807 : Int64)))), .val (.int (own_z (own_held q0 (-9223372036854775808 : Int64) q3)))] [])) (fun t kt => ?_) ?_
  · show Steps p.tables e below (T5.setTop (mkF m 44 #[.val (.long q0), .second, .val (.long q1), .second, .val (.long q2), .second, .val (.long q3), .second, .val (.long q4), .second, .val (.long q5), .second, .val (.ref b1), .val (.int (own_z (own_held q0 q2 q3))), .val (.int (own_z (own_held q0 q2 (9223372036854775807 : Int64)))), .unset] [(.int (own_z (own_held q0 (-9223372036854775808 : Int64) q3)))])) t
    refine XS.istore X5.here hx rfl (hb hby at_44) rfl (l' := #[.val (.long q0), .second, .val (.long q1), .second, .val (.long q2), .second, .val (.long q3), .second, .val (.long q4), .second, .val (.long q5), .second, .val (.ref b1), .val (.int (own_z (own_held q0 q2 q3))), .val (.int (own_z (own_held q0 q2 (9223372036854775807 : Int64)))), .val (.int (own_z (own_held q0 (-9223372036854775808 : Int64) q3)))]) rfl ?_
    show Steps p.tables e below (T5.setTop (mkF m 46 #[.val (.long q0), .second, .val (.long q1), .second, .val (.long q2), .second, .val (.long q3), .second, .val (.long q4), .second, .val (.long q5), .second, .val (.ref b1), .val (.int (own_z (own_held q0 q2 q3))), .val (.int (own_z (own_held q0 q2 (9223372036854775807 : Int64)))), .val (.int (own_z (own_held q0 (-9223372036854775808 : Int64) q3)))] [])) t
    exact kt
  have J160 : ∀ (Tj6 : State) (lj6 : List Loc) (Xj6 : Stand p l e room_1 s m #[(.long q0), (.long q1), (.long q2), (.long q3), (.long q4), (.long q5)] below meth c Tj6 lj6 1 2) (Nj6 : Fr n0 lj6) (ej6 : Tj6.heap = T2.heap), own_End p e below P Tj6 (mkF m 160 #[.val (.long q0), .second, .val (.long q1), .second, .val (.long q2), .second, .val (.long q3), .second, .val (.long q4), .second, .val (.long q5), .second, .val (.ref b1), .val (.int (own_z (own_held q0 q2 q3))), .val (.int (own_z (own_held q0 q2 (9223372036854775807 : Int64)))), .val (.int (own_z (own_held q0 (-9223372036854775808 : Int64) q3)))] []) := by
    intro Tj6 lj6 Xj6 Nj6 ej6
    refine own_go (T' := Tj6) (f' := (mkF m 165 #[.val (.long q0), .second, .val (.long q1), .second, .val (.long q2), .second, .val (.long q3), .second, .val (.long q4), .second, .val (.long q5), .second, .val (.ref b1), .val (.int (own_z (own_held q0 q2 q3))), .val (.int (own_z (own_held q0 q2 (9223372036854775807 : Int64)))), .val (.int (own_z (own_held q0 (-9223372036854775808 : Int64) q3)))] [(.int (lcmpW q0 (-9223372036854775808 : Int64)))])) (fun t kt => ?_) ?_
    · show Steps p.tables e below (Tj6.setTop (mkF m 160 #[.val (.long q0), .second, .val (.long q1), .second, .val (.long q2), .second, .val (.long q3), .second, .val (.long q4), .second, .val (.long q5), .second, .val (.ref b1), .val (.int (own_z (own_held q0 q2 q3))), .val (.int (own_z (own_held q0 q2 (9223372036854775807 : Int64)))), .val (.int (own_z (own_held q0 (-9223372036854775808 : Int64) q3)))] [])) t
      refine XS.lloadN Xj6.here hx rfl (hb hby at_160) rfl ?_
      show Steps p.tables e below (Tj6.setTop (mkF m 161 #[.val (.long q0), .second, .val (.long q1), .second, .val (.long q2), .second, .val (.long q3), .second, .val (.long q4), .second, .val (.long q5), .second, .val (.ref b1), .val (.int (own_z (own_held q0 q2 q3))), .val (.int (own_z (own_held q0 q2 (9223372036854775807 : Int64)))), .val (.int (own_z (own_held q0 (-9223372036854775808 : Int64) q3)))] [(.long q0)])) t
      refine Xj6.ldc2Long hx hown (mvT hZ (hw _ (List.mem_of_getElem? (i := 24) rfl))) (g := (mkF m 161 #[.val (.long q0), .second, .val (.long q1), .second, .val (.long q2), .second, .val (.long q3), .second, .val (.long q4), .second, .val (.long q5), .second, .val (.ref b1), .val (.int (own_z (own_held q0 q2 q3))), .val (.int (own_z (own_held q0 q2 (9223372036854775807 : Int64)))), .val (.int (own_z (own_held q0 (-9223372036854775808 : Int64) q3)))] [(.long q0)])) rfl (hb hby at_161) _ ?_
      show Steps p.tables e below (Tj6.setTop (mkF m 164 #[.val (.long q0), .second, .val (.long q1), .second, .val (.long q2), .second, .val (.long q3), .second, .val (.long q4), .second, .val (.long q5), .second, .val (.ref b1), .val (.int (own_z (own_held q0 q2 q3))), .val (.int (own_z (own_held q0 q2 (9223372036854775807 : Int64)))), .val (.int (own_z (own_held q0 (-9223372036854775808 : Int64) q3)))] [(.long (-9223372036854775808 : Int64)), (.long q0)])) t
      refine XS.lcmp Xj6.here hx rfl (hb hby at_164) rfl ?_
      show Steps p.tables e below (Tj6.setTop (mkF m 165 #[.val (.long q0), .second, .val (.long q1), .second, .val (.long q2), .second, .val (.long q3), .second, .val (.long q4), .second, .val (.long q5), .second, .val (.ref b1), .val (.int (own_z (own_held q0 q2 q3))), .val (.int (own_z (own_held q0 q2 (9223372036854775807 : Int64)))), .val (.int (own_z (own_held q0 (-9223372036854775808 : Int64) q3)))] [(.int (lcmpW q0 (-9223372036854775808 : Int64)))])) t
      exact kt
    by_cases hc165_7 : q0 = (-9223372036854775808 : Int64)
    · refine own_go (T' := Tj6) (f' := (mkF m 185 #[.val (.long q0), .second, .val (.long q1), .second, .val (.long q2), .second, .val (.long q3), .second, .val (.long q4), .second, .val (.long q5), .second, .val (.ref b1), .val (.int (own_z (own_held q0 q2 q3))), .val (.int (own_z (own_held q0 q2 (9223372036854775807 : Int64)))), .val (.int (own_z (own_held q0 (-9223372036854775808 : Int64) q3)))] [(.int (1 : Int32))])) (fun t kt => ?_) ?_
      · show Steps p.tables e below (Tj6.setTop (mkF m 165 #[.val (.long q0), .second, .val (.long q1), .second, .val (.long q2), .second, .val (.long q3), .second, .val (.long q4), .second, .val (.long q5), .second, .val (.ref b1), .val (.int (own_z (own_held q0 q2 q3))), .val (.int (own_z (own_held q0 q2 (9223372036854775807 : Int64)))), .val (.int (own_z (own_held q0 (-9223372036854775808 : Int64) q3)))] [(.int (lcmpW q0 (-9223372036854775808 : Int64)))])) t
        refine XS.ifYes Xj6.here hx rfl (pc0 := 165) (pc' := 184) rfl (hb hby at_165) rfl (own_lY_eq hc165_7) (by decide) (by decide) ?_
        show Steps p.tables e below (Tj6.setTop (mkF m 184 #[.val (.long q0), .second, .val (.long q1), .second, .val (.long q2), .second, .val (.long q3), .second, .val (.long q4), .second, .val (.long q5), .second, .val (.ref b1), .val (.int (own_z (own_held q0 q2 q3))), .val (.int (own_z (own_held q0 q2 (9223372036854775807 : Int64)))), .val (.int (own_z (own_held q0 (-9223372036854775808 : Int64) q3)))] [])) t
        refine XS.iconst Xj6.here hx rfl (hb hby at_184) ?_
        show Steps p.tables e below (Tj6.setTop (mkF m 185 #[.val (.long q0), .second, .val (.long q1), .second, .val (.long q2), .second, .val (.long q3), .second, .val (.long q4), .second, .val (.long q5), .second, .val (.ref b1), .val (.int (own_z (own_held q0 q2 q3))), .val (.int (own_z (own_held q0 q2 (9223372036854775807 : Int64)))), .val (.int (own_z (own_held q0 (-9223372036854775808 : Int64) q3)))] [(.int (1 : Int32))])) t
        exact kt
      exact own_retN Xj6 hP hx hlk ej6 (t := .boolean) hret (by simp) (hb hby at_185) (by decide) (by decide) (z' := (1 : Int32)) rfl ⟨rfl, Nj6⟩
    · refine own_go (T' := Tj6) (f' := (mkF m 176 #[.val (.long q0), .second, .val (.long q1), .second, .val (.long q2), .second, .val (.long q3), .second, .val (.long q4), .second, .val (.long q5), .second, .val (.ref b1), .val (.int (own_z (own_held q0 q2 q3))), .val (.int (own_z (own_held q0 q2 (9223372036854775807 : Int64)))), .val (.int (own_z (own_held q0 (-9223372036854775808 : Int64) q3)))] [(.long (q0 - (1 : Int64))), (.long (-9223372036854775808 : Int64)), (.ref b1)])) (fun t kt => ?_) ?_
      · show Steps p.tables e below (Tj6.setTop (mkF m 165 #[.val (.long q0), .second, .val (.long q1), .second, .val (.long q2), .second, .val (.long q3), .second, .val (.long q4), .second, .val (.long q5), .second, .val (.ref b1), .val (.int (own_z (own_held q0 q2 q3))), .val (.int (own_z (own_held q0 q2 (9223372036854775807 : Int64)))), .val (.int (own_z (own_held q0 (-9223372036854775808 : Int64) q3)))] [(.int (lcmpW q0 (-9223372036854775808 : Int64)))])) t
        refine XS.ifNo Xj6.here hx rfl (hb hby at_165) rfl (own_lN_eq hc165_7) ?_
        show Steps p.tables e below (Tj6.setTop (mkF m 168 #[.val (.long q0), .second, .val (.long q1), .second, .val (.long q2), .second, .val (.long q3), .second, .val (.long q4), .second, .val (.long q5), .second, .val (.ref b1), .val (.int (own_z (own_held q0 q2 q3))), .val (.int (own_z (own_held q0 q2 (9223372036854775807 : Int64)))), .val (.int (own_z (own_held q0 (-9223372036854775808 : Int64) q3)))] [])) t
        refine XS.aload Xj6.here hx rfl (hb hby at_168) rfl rfl ?_
        show Steps p.tables e below (Tj6.setTop (mkF m 170 #[.val (.long q0), .second, .val (.long q1), .second, .val (.long q2), .second, .val (.long q3), .second, .val (.long q4), .second, .val (.long q5), .second, .val (.ref b1), .val (.int (own_z (own_held q0 q2 q3))), .val (.int (own_z (own_held q0 q2 (9223372036854775807 : Int64)))), .val (.int (own_z (own_held q0 (-9223372036854775808 : Int64) q3)))] [(.ref b1)])) t
        refine Xj6.ldc2Long hx hown (mvT hZ (hw _ (List.mem_of_getElem? (i := 24) rfl))) (g := (mkF m 170 #[.val (.long q0), .second, .val (.long q1), .second, .val (.long q2), .second, .val (.long q3), .second, .val (.long q4), .second, .val (.long q5), .second, .val (.ref b1), .val (.int (own_z (own_held q0 q2 q3))), .val (.int (own_z (own_held q0 q2 (9223372036854775807 : Int64)))), .val (.int (own_z (own_held q0 (-9223372036854775808 : Int64) q3)))] [(.ref b1)])) rfl (hb hby at_170) _ ?_
        show Steps p.tables e below (Tj6.setTop (mkF m 173 #[.val (.long q0), .second, .val (.long q1), .second, .val (.long q2), .second, .val (.long q3), .second, .val (.long q4), .second, .val (.long q5), .second, .val (.ref b1), .val (.int (own_z (own_held q0 q2 q3))), .val (.int (own_z (own_held q0 q2 (9223372036854775807 : Int64)))), .val (.int (own_z (own_held q0 (-9223372036854775808 : Int64) q3)))] [(.long (-9223372036854775808 : Int64)), (.ref b1)])) t
        refine XS.lloadN Xj6.here hx rfl (hb hby at_173) rfl ?_
        show Steps p.tables e below (Tj6.setTop (mkF m 174 #[.val (.long q0), .second, .val (.long q1), .second, .val (.long q2), .second, .val (.long q3), .second, .val (.long q4), .second, .val (.long q5), .second, .val (.ref b1), .val (.int (own_z (own_held q0 q2 q3))), .val (.int (own_z (own_held q0 q2 (9223372036854775807 : Int64)))), .val (.int (own_z (own_held q0 (-9223372036854775808 : Int64) q3)))] [(.long q0), (.long (-9223372036854775808 : Int64)), (.ref b1)])) t
        refine XS.lconst Xj6.here hx rfl (hb hby at_174) ?_
        show Steps p.tables e below (Tj6.setTop (mkF m 175 #[.val (.long q0), .second, .val (.long q1), .second, .val (.long q2), .second, .val (.long q3), .second, .val (.long q4), .second, .val (.long q5), .second, .val (.ref b1), .val (.int (own_z (own_held q0 q2 q3))), .val (.int (own_z (own_held q0 q2 (9223372036854775807 : Int64)))), .val (.int (own_z (own_held q0 (-9223372036854775808 : Int64) q3)))] [(.long (1 : Int64)), (.long q0), (.long (-9223372036854775808 : Int64)), (.ref b1)])) t
        refine XS.lsub Xj6.here hx rfl (hb hby at_175) rfl ?_
        show Steps p.tables e below (Tj6.setTop (mkF m 176 #[.val (.long q0), .second, .val (.long q1), .second, .val (.long q2), .second, .val (.long q3), .second, .val (.long q4), .second, .val (.long q5), .second, .val (.ref b1), .val (.int (own_z (own_held q0 q2 q3))), .val (.int (own_z (own_held q0 q2 (9223372036854775807 : Int64)))), .val (.int (own_z (own_held q0 (-9223372036854775808 : Int64) q3)))] [(.long (q0 - (1 : Int64))), (.long (-9223372036854775808 : Int64)), (.ref b1)])) t
        exact kt
      refine own_callVp Xj6 hx hZ hown ej6 (hw _ (List.mem_of_getElem? (i := 18) rfl)) (hw _ (List.mem_of_getElem? (i := 19) rfl)) (notFace_of_selects (args := #[]) (mvT hZ (hw _ (List.mem_of_getElem? (i := 21) rfl)))) (hw _ (List.mem_of_getElem? (i := 21) rfl)) (hw _ (List.mem_of_getElem? (i := 20) rfl)) (hw _ (List.mem_of_getElem? (i := 2) rfl)) (hw _ (List.mem_of_getElem? (i := 22) rfl)) (by decide) (rm4 l Z aw hw b1 (-9223372036854775808 : Int64) (q0 - (1 : Int64)) q0 T2.heap n0 ZKq2 Pq2_1) Pq2_0 (g := (mkF m 176 #[.val (.long q0), .second, .val (.long q1), .second, .val (.long q2), .second, .val (.long q3), .second, .val (.long q4), .second, .val (.long q5), .second, .val (.ref b1), .val (.int (own_z (own_held q0 q2 q3))), .val (.int (own_z (own_held q0 q2 (9223372036854775807 : Int64)))), .val (.int (own_z (own_held q0 (-9223372036854775808 : Int64) q3)))] [(.long (q0 - (1 : Int64))), (.long (-9223372036854775808 : Int64)), (.ref b1)])) rfl (by rw [hml]; rfl) (argsL := [(.long (-9223372036854775808 : Int64)), (.long (q0 - (1 : Int64)))]) (rest := []) (lenOf pd_2 rfl) rfl rfl (W := 0) (by show 2 * 0 + _ ≤ _; exact Nat.le_of_eq rfl) (hb hby at_176) (by decide) (by decide) (by decide) (by decide) ?_
      intro T8 X8 e8
      refine own_go (T' := T8) (f' := (mkF m 185 #[.val (.long q0), .second, .val (.long q1), .second, .val (.long q2), .second, .val (.long q3), .second, .val (.long q4), .second, .val (.long q5), .second, .val (.ref b1), .val (.int (own_z (own_held q0 q2 q3))), .val (.int (own_z (own_held q0 q2 (9223372036854775807 : Int64)))), .val (.int (own_z (own_held q0 (-9223372036854775808 : Int64) q3)))] [(.int (1 : Int32))])) (fun t kt => ?_) ?_
      · show Steps p.tables e below (T8.setTop (mkF m 179 #[.val (.long q0), .second, .val (.long q1), .second, .val (.long q2), .second, .val (.long q3), .second, .val (.long q4), .second, .val (.long q5), .second, .val (.ref b1), .val (.int (own_z (own_held q0 q2 q3))), .val (.int (own_z (own_held q0 q2 (9223372036854775807 : Int64)))), .val (.int (own_z (own_held q0 (-9223372036854775808 : Int64) q3)))] [(.int (own_z (own_held q0 (-9223372036854775808 : Int64) (q0 - (1 : Int64)))))])) t
        refine XS.ifYes X8.here hx rfl (pc0 := 179) (pc' := 184) rfl (hb hby at_179) rfl (own_zY_eq (show ¬ ((own_held q0 (-9223372036854775808 : Int64) (q0 - (1 : Int64)))) from own_h8 hc165_7)) (by decide) (by decide) ?_
        show Steps p.tables e below (T8.setTop (mkF m 184 #[.val (.long q0), .second, .val (.long q1), .second, .val (.long q2), .second, .val (.long q3), .second, .val (.long q4), .second, .val (.long q5), .second, .val (.ref b1), .val (.int (own_z (own_held q0 q2 q3))), .val (.int (own_z (own_held q0 q2 (9223372036854775807 : Int64)))), .val (.int (own_z (own_held q0 (-9223372036854775808 : Int64) q3)))] [])) t
        refine XS.iconst X8.here hx rfl (hb hby at_184) ?_
        show Steps p.tables e below (T8.setTop (mkF m 185 #[.val (.long q0), .second, .val (.long q1), .second, .val (.long q2), .second, .val (.long q3), .second, .val (.long q4), .second, .val (.long q5), .second, .val (.ref b1), .val (.int (own_z (own_held q0 q2 q3))), .val (.int (own_z (own_held q0 q2 (9223372036854775807 : Int64)))), .val (.int (own_z (own_held q0 (-9223372036854775808 : Int64) q3)))] [(.int (1 : Int32))])) t
        exact kt
      exact own_retN X8 hP hx hlk e8 (t := .boolean) hret (by simp) (hb hby at_185) (by decide) (by decide) (z' := (1 : Int32)) rfl ⟨rfl, Nj6⟩
  have J124 : ∀ (Tj9 : State) (lj9 : List Loc) (Xj9 : Stand p l e room_1 s m #[(.long q0), (.long q1), (.long q2), (.long q3), (.long q4), (.long q5)] below meth c Tj9 lj9 1 2) (Nj9 : Fr n0 lj9) (ej9 : Tj9.heap = T2.heap), own_End p e below P Tj9 (mkF m 124 #[.val (.long q0), .second, .val (.long q1), .second, .val (.long q2), .second, .val (.long q3), .second, .val (.long q4), .second, .val (.long q5), .second, .val (.ref b1), .val (.int (own_z (own_held q0 q2 q3))), .val (.int (own_z (own_held q0 q2 (9223372036854775807 : Int64)))), .val (.int (own_z (own_held q0 (-9223372036854775808 : Int64) q3)))] []) := by
    intro Tj9 lj9 Xj9 Nj9 ej9
    refine own_go (T' := Tj9) (f' := (mkF m 128 #[.val (.long q0), .second, .val (.long q1), .second, .val (.long q2), .second, .val (.long q3), .second, .val (.long q4), .second, .val (.long q5), .second, .val (.ref b1), .val (.int (own_z (own_held q0 q2 q3))), .val (.int (own_z (own_held q0 q2 (9223372036854775807 : Int64)))), .val (.int (own_z (own_held q0 (-9223372036854775808 : Int64) q3)))] [(.long q0), (.long q0), (.ref b1)])) (fun t kt => ?_) ?_
    · show Steps p.tables e below (Tj9.setTop (mkF m 124 #[.val (.long q0), .second, .val (.long q1), .second, .val (.long q2), .second, .val (.long q3), .second, .val (.long q4), .second, .val (.long q5), .second, .val (.ref b1), .val (.int (own_z (own_held q0 q2 q3))), .val (.int (own_z (own_held q0 q2 (9223372036854775807 : Int64)))), .val (.int (own_z (own_held q0 (-9223372036854775808 : Int64) q3)))] [])) t
      refine XS.aload Xj9.here hx rfl (hb hby at_124) rfl rfl ?_
      show Steps p.tables e below (Tj9.setTop (mkF m 126 #[.val (.long q0), .second, .val (.long q1), .second, .val (.long q2), .second, .val (.long q3), .second, .val (.long q4), .second, .val (.long q5), .second, .val (.ref b1), .val (.int (own_z (own_held q0 q2 q3))), .val (.int (own_z (own_held q0 q2 (9223372036854775807 : Int64)))), .val (.int (own_z (own_held q0 (-9223372036854775808 : Int64) q3)))] [(.ref b1)])) t
      refine XS.lloadN Xj9.here hx rfl (hb hby at_126) rfl ?_
      show Steps p.tables e below (Tj9.setTop (mkF m 127 #[.val (.long q0), .second, .val (.long q1), .second, .val (.long q2), .second, .val (.long q3), .second, .val (.long q4), .second, .val (.long q5), .second, .val (.ref b1), .val (.int (own_z (own_held q0 q2 q3))), .val (.int (own_z (own_held q0 q2 (9223372036854775807 : Int64)))), .val (.int (own_z (own_held q0 (-9223372036854775808 : Int64) q3)))] [(.long q0), (.ref b1)])) t
      refine XS.lloadN Xj9.here hx rfl (hb hby at_127) rfl ?_
      show Steps p.tables e below (Tj9.setTop (mkF m 128 #[.val (.long q0), .second, .val (.long q1), .second, .val (.long q2), .second, .val (.long q3), .second, .val (.long q4), .second, .val (.long q5), .second, .val (.ref b1), .val (.int (own_z (own_held q0 q2 q3))), .val (.int (own_z (own_held q0 q2 (9223372036854775807 : Int64)))), .val (.int (own_z (own_held q0 (-9223372036854775808 : Int64) q3)))] [(.long q0), (.long q0), (.ref b1)])) t
      exact kt
    refine own_callVp Xj9 hx hZ hown ej9 (hw _ (List.mem_of_getElem? (i := 18) rfl)) (hw _ (List.mem_of_getElem? (i := 19) rfl)) (notFace_of_selects (args := #[]) (mvT hZ (hw _ (List.mem_of_getElem? (i := 21) rfl)))) (hw _ (List.mem_of_getElem? (i := 21) rfl)) (hw _ (List.mem_of_getElem? (i := 20) rfl)) (hw _ (List.mem_of_getElem? (i := 2) rfl)) (hw _ (List.mem_of_getElem? (i := 22) rfl)) (by decide) (rm4 l Z aw hw b1 q0 q0 q0 T2.heap n0 ZKq2 Pq2_1) Pq2_0 (g := (mkF m 128 #[.val (.long q0), .second, .val (.long q1), .second, .val (.long q2), .second, .val (.long q3), .second, .val (.long q4), .second, .val (.long q5), .second, .val (.ref b1), .val (.int (own_z (own_held q0 q2 q3))), .val (.int (own_z (own_held q0 q2 (9223372036854775807 : Int64)))), .val (.int (own_z (own_held q0 (-9223372036854775808 : Int64) q3)))] [(.long q0), (.long q0), (.ref b1)])) rfl (by rw [hml]; rfl) (argsL := [(.long q0), (.long q0)]) (rest := []) (lenOf pd_2 rfl) rfl rfl (W := 0) (by show 2 * 0 + _ ≤ _; exact Nat.le_of_eq rfl) (hb hby at_128) (by decide) (by decide) (by decide) (by decide) ?_
    intro T10 X10 e10
    refine own_go (T' := T10) (f' := (mkF m 141 #[.val (.long q0), .second, .val (.long q1), .second, .val (.long q2), .second, .val (.long q3), .second, .val (.long q4), .second, .val (.long q5), .second, .val (.ref b1), .val (.int (own_z (own_held q0 q2 q3))), .val (.int (own_z (own_held q0 q2 (9223372036854775807 : Int64)))), .val (.int (own_z (own_held q0 (-9223372036854775808 : Int64) q3)))] [(.int (lcmpW q0 (9223372036854775807 : Int64)))])) (fun t kt => ?_) ?_
    · show Steps p.tables e below (T10.setTop (mkF m 131 #[.val (.long q0), .second, .val (.long q1), .second, .val (.long q2), .second, .val (.long q3), .second, .val (.long q4), .second, .val (.long q5), .second, .val (.ref b1), .val (.int (own_z (own_held q0 q2 q3))), .val (.int (own_z (own_held q0 q2 (9223372036854775807 : Int64)))), .val (.int (own_z (own_held q0 (-9223372036854775808 : Int64) q3)))] [(.int (own_z (own_held q0 q0 q0)))])) t
      refine XS.ifYes X10.here hx rfl (pc0 := 131) (pc' := 136) rfl (hb hby at_131) rfl (own_zY_ne (show (own_held q0 q0 q0) from own_h6 q0)) (by decide) (by decide) ?_
      show Steps p.tables e below (T10.setTop (mkF m 136 #[.val (.long q0), .second, .val (.long q1), .second, .val (.long q2), .second, .val (.long q3), .second, .val (.long q4), .second, .val (.long q5), .second, .val (.ref b1), .val (.int (own_z (own_held q0 q2 q3))), .val (.int (own_z (own_held q0 q2 (9223372036854775807 : Int64)))), .val (.int (own_z (own_held q0 (-9223372036854775808 : Int64) q3)))] [])) t
      refine XS.lloadN X10.here hx rfl (hb hby at_136) rfl ?_
      show Steps p.tables e below (T10.setTop (mkF m 137 #[.val (.long q0), .second, .val (.long q1), .second, .val (.long q2), .second, .val (.long q3), .second, .val (.long q4), .second, .val (.long q5), .second, .val (.ref b1), .val (.int (own_z (own_held q0 q2 q3))), .val (.int (own_z (own_held q0 q2 (9223372036854775807 : Int64)))), .val (.int (own_z (own_held q0 (-9223372036854775808 : Int64) q3)))] [(.long q0)])) t
      refine X10.ldc2Long hx hown (mvT hZ (hw _ (List.mem_of_getElem? (i := 23) rfl))) (g := (mkF m 137 #[.val (.long q0), .second, .val (.long q1), .second, .val (.long q2), .second, .val (.long q3), .second, .val (.long q4), .second, .val (.long q5), .second, .val (.ref b1), .val (.int (own_z (own_held q0 q2 q3))), .val (.int (own_z (own_held q0 q2 (9223372036854775807 : Int64)))), .val (.int (own_z (own_held q0 (-9223372036854775808 : Int64) q3)))] [(.long q0)])) rfl (hb hby at_137) _ ?_
      show Steps p.tables e below (T10.setTop (mkF m 140 #[.val (.long q0), .second, .val (.long q1), .second, .val (.long q2), .second, .val (.long q3), .second, .val (.long q4), .second, .val (.long q5), .second, .val (.ref b1), .val (.int (own_z (own_held q0 q2 q3))), .val (.int (own_z (own_held q0 q2 (9223372036854775807 : Int64)))), .val (.int (own_z (own_held q0 (-9223372036854775808 : Int64) q3)))] [(.long (9223372036854775807 : Int64)), (.long q0)])) t
      refine XS.lcmp X10.here hx rfl (hb hby at_140) rfl ?_
      show Steps p.tables e below (T10.setTop (mkF m 141 #[.val (.long q0), .second, .val (.long q1), .second, .val (.long q2), .second, .val (.long q3), .second, .val (.long q4), .second, .val (.long q5), .second, .val (.ref b1), .val (.int (own_z (own_held q0 q2 q3))), .val (.int (own_z (own_held q0 q2 (9223372036854775807 : Int64)))), .val (.int (own_z (own_held q0 (-9223372036854775808 : Int64) q3)))] [(.int (lcmpW q0 (9223372036854775807 : Int64)))])) t
      exact kt
    by_cases hc141_11 : q0 = (9223372036854775807 : Int64)
    · refine own_go (T' := T10) (f' := (mkF m 160 #[.val (.long q0), .second, .val (.long q1), .second, .val (.long q2), .second, .val (.long q3), .second, .val (.long q4), .second, .val (.long q5), .second, .val (.ref b1), .val (.int (own_z (own_held q0 q2 q3))), .val (.int (own_z (own_held q0 q2 (9223372036854775807 : Int64)))), .val (.int (own_z (own_held q0 (-9223372036854775808 : Int64) q3)))] [])) (fun t kt => ?_) ?_
      · show Steps p.tables e below (T10.setTop (mkF m 141 #[.val (.long q0), .second, .val (.long q1), .second, .val (.long q2), .second, .val (.long q3), .second, .val (.long q4), .second, .val (.long q5), .second, .val (.ref b1), .val (.int (own_z (own_held q0 q2 q3))), .val (.int (own_z (own_held q0 q2 (9223372036854775807 : Int64)))), .val (.int (own_z (own_held q0 (-9223372036854775808 : Int64) q3)))] [(.int (lcmpW q0 (9223372036854775807 : Int64)))])) t
        refine XS.ifYes X10.here hx rfl (pc0 := 141) (pc' := 160) rfl (hb hby at_141) rfl (own_lY_eq hc141_11) (by decide) (by decide) ?_
        show Steps p.tables e below (T10.setTop (mkF m 160 #[.val (.long q0), .second, .val (.long q1), .second, .val (.long q2), .second, .val (.long q3), .second, .val (.long q4), .second, .val (.long q5), .second, .val (.ref b1), .val (.int (own_z (own_held q0 q2 q3))), .val (.int (own_z (own_held q0 q2 (9223372036854775807 : Int64)))), .val (.int (own_z (own_held q0 (-9223372036854775808 : Int64) q3)))] [])) t
        exact kt
      exact J160 T10 _ X10 Nj9 e10
    · refine own_go (T' := T10) (f' := (mkF m 152 #[.val (.long q0), .second, .val (.long q1), .second, .val (.long q2), .second, .val (.long q3), .second, .val (.long q4), .second, .val (.long q5), .second, .val (.ref b1), .val (.int (own_z (own_held q0 q2 q3))), .val (.int (own_z (own_held q0 q2 (9223372036854775807 : Int64)))), .val (.int (own_z (own_held q0 (-9223372036854775808 : Int64) q3)))] [(.long (9223372036854775807 : Int64)), (.long (q0 + (1 : Int64))), (.ref b1)])) (fun t kt => ?_) ?_
      · show Steps p.tables e below (T10.setTop (mkF m 141 #[.val (.long q0), .second, .val (.long q1), .second, .val (.long q2), .second, .val (.long q3), .second, .val (.long q4), .second, .val (.long q5), .second, .val (.ref b1), .val (.int (own_z (own_held q0 q2 q3))), .val (.int (own_z (own_held q0 q2 (9223372036854775807 : Int64)))), .val (.int (own_z (own_held q0 (-9223372036854775808 : Int64) q3)))] [(.int (lcmpW q0 (9223372036854775807 : Int64)))])) t
        refine XS.ifNo X10.here hx rfl (hb hby at_141) rfl (own_lN_eq hc141_11) ?_
        show Steps p.tables e below (T10.setTop (mkF m 144 #[.val (.long q0), .second, .val (.long q1), .second, .val (.long q2), .second, .val (.long q3), .second, .val (.long q4), .second, .val (.long q5), .second, .val (.ref b1), .val (.int (own_z (own_held q0 q2 q3))), .val (.int (own_z (own_held q0 q2 (9223372036854775807 : Int64)))), .val (.int (own_z (own_held q0 (-9223372036854775808 : Int64) q3)))] [])) t
        refine XS.aload X10.here hx rfl (hb hby at_144) rfl rfl ?_
        show Steps p.tables e below (T10.setTop (mkF m 146 #[.val (.long q0), .second, .val (.long q1), .second, .val (.long q2), .second, .val (.long q3), .second, .val (.long q4), .second, .val (.long q5), .second, .val (.ref b1), .val (.int (own_z (own_held q0 q2 q3))), .val (.int (own_z (own_held q0 q2 (9223372036854775807 : Int64)))), .val (.int (own_z (own_held q0 (-9223372036854775808 : Int64) q3)))] [(.ref b1)])) t
        refine XS.lloadN X10.here hx rfl (hb hby at_146) rfl ?_
        show Steps p.tables e below (T10.setTop (mkF m 147 #[.val (.long q0), .second, .val (.long q1), .second, .val (.long q2), .second, .val (.long q3), .second, .val (.long q4), .second, .val (.long q5), .second, .val (.ref b1), .val (.int (own_z (own_held q0 q2 q3))), .val (.int (own_z (own_held q0 q2 (9223372036854775807 : Int64)))), .val (.int (own_z (own_held q0 (-9223372036854775808 : Int64) q3)))] [(.long q0), (.ref b1)])) t
        refine XS.lconst X10.here hx rfl (hb hby at_147) ?_
        show Steps p.tables e below (T10.setTop (mkF m 148 #[.val (.long q0), .second, .val (.long q1), .second, .val (.long q2), .second, .val (.long q3), .second, .val (.long q4), .second, .val (.long q5), .second, .val (.ref b1), .val (.int (own_z (own_held q0 q2 q3))), .val (.int (own_z (own_held q0 q2 (9223372036854775807 : Int64)))), .val (.int (own_z (own_held q0 (-9223372036854775808 : Int64) q3)))] [(.long (1 : Int64)), (.long q0), (.ref b1)])) t
        refine XS.ladd X10.here hx rfl (hb hby at_148) rfl ?_
        show Steps p.tables e below (T10.setTop (mkF m 149 #[.val (.long q0), .second, .val (.long q1), .second, .val (.long q2), .second, .val (.long q3), .second, .val (.long q4), .second, .val (.long q5), .second, .val (.ref b1), .val (.int (own_z (own_held q0 q2 q3))), .val (.int (own_z (own_held q0 q2 (9223372036854775807 : Int64)))), .val (.int (own_z (own_held q0 (-9223372036854775808 : Int64) q3)))] [(.long (q0 + (1 : Int64))), (.ref b1)])) t
        refine X10.ldc2Long hx hown (mvT hZ (hw _ (List.mem_of_getElem? (i := 23) rfl))) (g := (mkF m 149 #[.val (.long q0), .second, .val (.long q1), .second, .val (.long q2), .second, .val (.long q3), .second, .val (.long q4), .second, .val (.long q5), .second, .val (.ref b1), .val (.int (own_z (own_held q0 q2 q3))), .val (.int (own_z (own_held q0 q2 (9223372036854775807 : Int64)))), .val (.int (own_z (own_held q0 (-9223372036854775808 : Int64) q3)))] [(.long (q0 + (1 : Int64))), (.ref b1)])) rfl (hb hby at_149) _ ?_
        show Steps p.tables e below (T10.setTop (mkF m 152 #[.val (.long q0), .second, .val (.long q1), .second, .val (.long q2), .second, .val (.long q3), .second, .val (.long q4), .second, .val (.long q5), .second, .val (.ref b1), .val (.int (own_z (own_held q0 q2 q3))), .val (.int (own_z (own_held q0 q2 (9223372036854775807 : Int64)))), .val (.int (own_z (own_held q0 (-9223372036854775808 : Int64) q3)))] [(.long (9223372036854775807 : Int64)), (.long (q0 + (1 : Int64))), (.ref b1)])) t
        exact kt
      refine own_callVp X10 hx hZ hown e10 (hw _ (List.mem_of_getElem? (i := 18) rfl)) (hw _ (List.mem_of_getElem? (i := 19) rfl)) (notFace_of_selects (args := #[]) (mvT hZ (hw _ (List.mem_of_getElem? (i := 21) rfl)))) (hw _ (List.mem_of_getElem? (i := 21) rfl)) (hw _ (List.mem_of_getElem? (i := 20) rfl)) (hw _ (List.mem_of_getElem? (i := 2) rfl)) (hw _ (List.mem_of_getElem? (i := 22) rfl)) (by decide) (rm4 l Z aw hw b1 (q0 + (1 : Int64)) (9223372036854775807 : Int64) q0 T2.heap n0 ZKq2 Pq2_1) Pq2_0 (g := (mkF m 152 #[.val (.long q0), .second, .val (.long q1), .second, .val (.long q2), .second, .val (.long q3), .second, .val (.long q4), .second, .val (.long q5), .second, .val (.ref b1), .val (.int (own_z (own_held q0 q2 q3))), .val (.int (own_z (own_held q0 q2 (9223372036854775807 : Int64)))), .val (.int (own_z (own_held q0 (-9223372036854775808 : Int64) q3)))] [(.long (9223372036854775807 : Int64)), (.long (q0 + (1 : Int64))), (.ref b1)])) rfl (by rw [hml]; rfl) (argsL := [(.long (q0 + (1 : Int64))), (.long (9223372036854775807 : Int64))]) (rest := []) (lenOf pd_2 rfl) rfl rfl (W := 0) (by show 2 * 0 + _ ≤ _; exact Nat.le_of_eq rfl) (hb hby at_152) (by decide) (by decide) (by decide) (by decide) ?_
      intro T12 X12 e12
      refine own_go (T' := T12) (f' := (mkF m 160 #[.val (.long q0), .second, .val (.long q1), .second, .val (.long q2), .second, .val (.long q3), .second, .val (.long q4), .second, .val (.long q5), .second, .val (.ref b1), .val (.int (own_z (own_held q0 q2 q3))), .val (.int (own_z (own_held q0 q2 (9223372036854775807 : Int64)))), .val (.int (own_z (own_held q0 (-9223372036854775808 : Int64) q3)))] [])) (fun t kt => ?_) ?_
      · show Steps p.tables e below (T12.setTop (mkF m 155 #[.val (.long q0), .second, .val (.long q1), .second, .val (.long q2), .second, .val (.long q3), .second, .val (.long q4), .second, .val (.long q5), .second, .val (.ref b1), .val (.int (own_z (own_held q0 q2 q3))), .val (.int (own_z (own_held q0 q2 (9223372036854775807 : Int64)))), .val (.int (own_z (own_held q0 (-9223372036854775808 : Int64) q3)))] [(.int (own_z (own_held q0 (q0 + (1 : Int64)) (9223372036854775807 : Int64))))])) t
        refine XS.ifYes X12.here hx rfl (pc0 := 155) (pc' := 160) rfl (hb hby at_155) rfl (own_zY_eq (show ¬ ((own_held q0 (q0 + (1 : Int64)) (9223372036854775807 : Int64))) from own_h7 hc141_11)) (by decide) (by decide) ?_
        show Steps p.tables e below (T12.setTop (mkF m 160 #[.val (.long q0), .second, .val (.long q1), .second, .val (.long q2), .second, .val (.long q3), .second, .val (.long q4), .second, .val (.long q5), .second, .val (.ref b1), .val (.int (own_z (own_held q0 q2 q3))), .val (.int (own_z (own_held q0 q2 (9223372036854775807 : Int64)))), .val (.int (own_z (own_held q0 (-9223372036854775808 : Int64) q3)))] [])) t
        exact kt
      exact J160 T12 _ X12 Nj9 e12
  have J96 : ∀ (Tj13 : State) (lj13 : List Loc) (Xj13 : Stand p l e room_1 s m #[(.long q0), (.long q1), (.long q2), (.long q3), (.long q4), (.long q5)] below meth c Tj13 lj13 1 2) (Nj13 : Fr n0 lj13) (ej13 : Tj13.heap = T2.heap), own_End p e below P Tj13 (mkF m 96 #[.val (.long q0), .second, .val (.long q1), .second, .val (.long q2), .second, .val (.long q3), .second, .val (.long q4), .second, .val (.long q5), .second, .val (.ref b1), .val (.int (own_z (own_held q0 q2 q3))), .val (.int (own_z (own_held q0 q2 (9223372036854775807 : Int64)))), .val (.int (own_z (own_held q0 (-9223372036854775808 : Int64) q3)))] []) := by
    intro Tj13 lj13 Xj13 Nj13 ej13
    refine own_go (T' := Tj13) (f' := (mkF m 101 #[.val (.long q0), .second, .val (.long q1), .second, .val (.long q2), .second, .val (.long q3), .second, .val (.long q4), .second, .val (.long q5), .second, .val (.ref b1), .val (.int (own_z (own_held q0 q2 q3))), .val (.int (own_z (own_held q0 q2 (9223372036854775807 : Int64)))), .val (.int (own_z (own_held q0 (-9223372036854775808 : Int64) q3)))] [(.int (lcmpW q5 q3))])) (fun t kt => ?_) ?_
    · show Steps p.tables e below (Tj13.setTop (mkF m 96 #[.val (.long q0), .second, .val (.long q1), .second, .val (.long q2), .second, .val (.long q3), .second, .val (.long q4), .second, .val (.long q5), .second, .val (.ref b1), .val (.int (own_z (own_held q0 q2 q3))), .val (.int (own_z (own_held q0 q2 (9223372036854775807 : Int64)))), .val (.int (own_z (own_held q0 (-9223372036854775808 : Int64) q3)))] [])) t
      refine XS.lload Xj13.here hx rfl (hb hby at_96) rfl ?_
      show Steps p.tables e below (Tj13.setTop (mkF m 98 #[.val (.long q0), .second, .val (.long q1), .second, .val (.long q2), .second, .val (.long q3), .second, .val (.long q4), .second, .val (.long q5), .second, .val (.ref b1), .val (.int (own_z (own_held q0 q2 q3))), .val (.int (own_z (own_held q0 q2 (9223372036854775807 : Int64)))), .val (.int (own_z (own_held q0 (-9223372036854775808 : Int64) q3)))] [(.long q5)])) t
      refine XS.lload Xj13.here hx rfl (hb hby at_98) rfl ?_
      show Steps p.tables e below (Tj13.setTop (mkF m 100 #[.val (.long q0), .second, .val (.long q1), .second, .val (.long q2), .second, .val (.long q3), .second, .val (.long q4), .second, .val (.long q5), .second, .val (.ref b1), .val (.int (own_z (own_held q0 q2 q3))), .val (.int (own_z (own_held q0 q2 (9223372036854775807 : Int64)))), .val (.int (own_z (own_held q0 (-9223372036854775808 : Int64) q3)))] [(.long q3), (.long q5)])) t
      refine XS.lcmp Xj13.here hx rfl (hb hby at_100) rfl ?_
      show Steps p.tables e below (Tj13.setTop (mkF m 101 #[.val (.long q0), .second, .val (.long q1), .second, .val (.long q2), .second, .val (.long q3), .second, .val (.long q4), .second, .val (.long q5), .second, .val (.ref b1), .val (.int (own_z (own_held q0 q2 q3))), .val (.int (own_z (own_held q0 q2 (9223372036854775807 : Int64)))), .val (.int (own_z (own_held q0 (-9223372036854775808 : Int64) q3)))] [(.int (lcmpW q5 q3))])) t
      exact kt
    by_cases hc101_14 : q5 < q3
    · refine own_go (T' := Tj13) (f' := (mkF m 124 #[.val (.long q0), .second, .val (.long q1), .second, .val (.long q2), .second, .val (.long q3), .second, .val (.long q4), .second, .val (.long q5), .second, .val (.ref b1), .val (.int (own_z (own_held q0 q2 q3))), .val (.int (own_z (own_held q0 q2 (9223372036854775807 : Int64)))), .val (.int (own_z (own_held q0 (-9223372036854775808 : Int64) q3)))] [])) (fun t kt => ?_) ?_
      · show Steps p.tables e below (Tj13.setTop (mkF m 101 #[.val (.long q0), .second, .val (.long q1), .second, .val (.long q2), .second, .val (.long q3), .second, .val (.long q4), .second, .val (.long q5), .second, .val (.ref b1), .val (.int (own_z (own_held q0 q2 q3))), .val (.int (own_z (own_held q0 q2 (9223372036854775807 : Int64)))), .val (.int (own_z (own_held q0 (-9223372036854775808 : Int64) q3)))] [(.int (lcmpW q5 q3))])) t
        refine XS.ifYes Xj13.here hx rfl (pc0 := 101) (pc' := 124) rfl (hb hby at_101) rfl (own_lY_lt hc101_14) (by decide) (by decide) ?_
        show Steps p.tables e below (Tj13.setTop (mkF m 124 #[.val (.long q0), .second, .val (.long q1), .second, .val (.long q2), .second, .val (.long q3), .second, .val (.long q4), .second, .val (.long q5), .second, .val (.ref b1), .val (.int (own_z (own_held q0 q2 q3))), .val (.int (own_z (own_held q0 q2 (9223372036854775807 : Int64)))), .val (.int (own_z (own_held q0 (-9223372036854775808 : Int64) q3)))] [])) t
        exact kt
      exact J124 Tj13 _ Xj13 Nj13 ej13
    · refine own_go (T' := Tj13) (f' := (mkF m 106 #[.val (.long q0), .second, .val (.long q1), .second, .val (.long q2), .second, .val (.long q3), .second, .val (.long q4), .second, .val (.long q5), .second, .val (.ref b1), .val (.int (own_z (own_held q0 q2 q3))), .val (.int (own_z (own_held q0 q2 (9223372036854775807 : Int64)))), .val (.int (own_z (own_held q0 (-9223372036854775808 : Int64) q3)))] [(.int (own_z (own_held q0 (-9223372036854775808 : Int64) q3)))])) (fun t kt => ?_) ?_
      · show Steps p.tables e below (Tj13.setTop (mkF m 101 #[.val (.long q0), .second, .val (.long q1), .second, .val (.long q2), .second, .val (.long q3), .second, .val (.long q4), .second, .val (.long q5), .second, .val (.ref b1), .val (.int (own_z (own_held q0 q2 q3))), .val (.int (own_z (own_held q0 q2 (9223372036854775807 : Int64)))), .val (.int (own_z (own_held q0 (-9223372036854775808 : Int64) q3)))] [(.int (lcmpW q5 q3))])) t
        refine XS.ifNo Xj13.here hx rfl (hb hby at_101) rfl (own_lN_lt hc101_14) ?_
        show Steps p.tables e below (Tj13.setTop (mkF m 104 #[.val (.long q0), .second, .val (.long q1), .second, .val (.long q2), .second, .val (.long q3), .second, .val (.long q4), .second, .val (.long q5), .second, .val (.ref b1), .val (.int (own_z (own_held q0 q2 q3))), .val (.int (own_z (own_held q0 q2 (9223372036854775807 : Int64)))), .val (.int (own_z (own_held q0 (-9223372036854775808 : Int64) q3)))] [])) t
        refine XS.iload Xj13.here hx rfl (hb hby at_104) rfl ?_
        show Steps p.tables e below (Tj13.setTop (mkF m 106 #[.val (.long q0), .second, .val (.long q1), .second, .val (.long q2), .second, .val (.long q3), .second, .val (.long q4), .second, .val (.long q5), .second, .val (.ref b1), .val (.int (own_z (own_held q0 q2 q3))), .val (.int (own_z (own_held q0 q2 (9223372036854775807 : Int64)))), .val (.int (own_z (own_held q0 (-9223372036854775808 : Int64) q3)))] [(.int (own_z (own_held q0 (-9223372036854775808 : Int64) q3)))])) t
        exact kt
      by_cases hc106_15 : (own_held q0 (-9223372036854775808 : Int64) q3)
      · refine own_go (T' := Tj13) (f' := (mkF m 116 #[.val (.long q0), .second, .val (.long q1), .second, .val (.long q2), .second, .val (.long q3), .second, .val (.long q4), .second, .val (.long q5), .second, .val (.ref b1), .val (.int (own_z (own_held q0 q2 q3))), .val (.int (own_z (own_held q0 q2 (9223372036854775807 : Int64)))), .val (.int (own_z (own_held q0 (-9223372036854775808 : Int64) q3)))] [(.long q5), (.long (-9223372036854775808 : Int64)), (.ref b1)])) (fun t kt => ?_) ?_
        · show Steps p.tables e below (Tj13.setTop (mkF m 106 #[.val (.long q0), .second, .val (.long q1), .second, .val (.long q2), .second, .val (.long q3), .second, .val (.long q4), .second, .val (.long q5), .second, .val (.ref b1), .val (.int (own_z (own_held q0 q2 q3))), .val (.int (own_z (own_held q0 q2 (9223372036854775807 : Int64)))), .val (.int (own_z (own_held q0 (-9223372036854775808 : Int64) q3)))] [(.int (own_z (own_held q0 (-9223372036854775808 : Int64) q3)))])) t
          refine XS.ifNo Xj13.here hx rfl (hb hby at_106) rfl (own_zN_eq hc106_15) ?_
          show Steps p.tables e below (Tj13.setTop (mkF m 109 #[.val (.long q0), .second, .val (.long q1), .second, .val (.long q2), .second, .val (.long q3), .second, .val (.long q4), .second, .val (.long q5), .second, .val (.ref b1), .val (.int (own_z (own_held q0 q2 q3))), .val (.int (own_z (own_held q0 q2 (9223372036854775807 : Int64)))), .val (.int (own_z (own_held q0 (-9223372036854775808 : Int64) q3)))] [])) t
          refine XS.aload Xj13.here hx rfl (hb hby at_109) rfl rfl ?_
          show Steps p.tables e below (Tj13.setTop (mkF m 111 #[.val (.long q0), .second, .val (.long q1), .second, .val (.long q2), .second, .val (.long q3), .second, .val (.long q4), .second, .val (.long q5), .second, .val (.ref b1), .val (.int (own_z (own_held q0 q2 q3))), .val (.int (own_z (own_held q0 q2 (9223372036854775807 : Int64)))), .val (.int (own_z (own_held q0 (-9223372036854775808 : Int64) q3)))] [(.ref b1)])) t
          refine Xj13.ldc2Long hx hown (mvT hZ (hw _ (List.mem_of_getElem? (i := 24) rfl))) (g := (mkF m 111 #[.val (.long q0), .second, .val (.long q1), .second, .val (.long q2), .second, .val (.long q3), .second, .val (.long q4), .second, .val (.long q5), .second, .val (.ref b1), .val (.int (own_z (own_held q0 q2 q3))), .val (.int (own_z (own_held q0 q2 (9223372036854775807 : Int64)))), .val (.int (own_z (own_held q0 (-9223372036854775808 : Int64) q3)))] [(.ref b1)])) rfl (hb hby at_111) _ ?_
          show Steps p.tables e below (Tj13.setTop (mkF m 114 #[.val (.long q0), .second, .val (.long q1), .second, .val (.long q2), .second, .val (.long q3), .second, .val (.long q4), .second, .val (.long q5), .second, .val (.ref b1), .val (.int (own_z (own_held q0 q2 q3))), .val (.int (own_z (own_held q0 q2 (9223372036854775807 : Int64)))), .val (.int (own_z (own_held q0 (-9223372036854775808 : Int64) q3)))] [(.long (-9223372036854775808 : Int64)), (.ref b1)])) t
          refine XS.lload Xj13.here hx rfl (hb hby at_114) rfl ?_
          show Steps p.tables e below (Tj13.setTop (mkF m 116 #[.val (.long q0), .second, .val (.long q1), .second, .val (.long q2), .second, .val (.long q3), .second, .val (.long q4), .second, .val (.long q5), .second, .val (.ref b1), .val (.int (own_z (own_held q0 q2 q3))), .val (.int (own_z (own_held q0 q2 (9223372036854775807 : Int64)))), .val (.int (own_z (own_held q0 (-9223372036854775808 : Int64) q3)))] [(.long q5), (.long (-9223372036854775808 : Int64)), (.ref b1)])) t
          exact kt
        refine own_callVp Xj13 hx hZ hown ej13 (hw _ (List.mem_of_getElem? (i := 18) rfl)) (hw _ (List.mem_of_getElem? (i := 19) rfl)) (notFace_of_selects (args := #[]) (mvT hZ (hw _ (List.mem_of_getElem? (i := 21) rfl)))) (hw _ (List.mem_of_getElem? (i := 21) rfl)) (hw _ (List.mem_of_getElem? (i := 20) rfl)) (hw _ (List.mem_of_getElem? (i := 2) rfl)) (hw _ (List.mem_of_getElem? (i := 22) rfl)) (by decide) (rm4 l Z aw hw b1 (-9223372036854775808 : Int64) q5 q0 T2.heap n0 ZKq2 Pq2_1) Pq2_0 (g := (mkF m 116 #[.val (.long q0), .second, .val (.long q1), .second, .val (.long q2), .second, .val (.long q3), .second, .val (.long q4), .second, .val (.long q5), .second, .val (.ref b1), .val (.int (own_z (own_held q0 q2 q3))), .val (.int (own_z (own_held q0 q2 (9223372036854775807 : Int64)))), .val (.int (own_z (own_held q0 (-9223372036854775808 : Int64) q3)))] [(.long q5), (.long (-9223372036854775808 : Int64)), (.ref b1)])) rfl (by rw [hml]; rfl) (argsL := [(.long (-9223372036854775808 : Int64)), (.long q5)]) (rest := []) (lenOf pd_2 rfl) rfl rfl (W := 0) (by show 2 * 0 + _ ≤ _; exact Nat.le_of_eq rfl) (hb hby at_116) (by decide) (by decide) (by decide) (by decide) ?_
        intro T16 X16 e16
        refine own_go (T' := T16) (f' := (mkF m 124 #[.val (.long q0), .second, .val (.long q1), .second, .val (.long q2), .second, .val (.long q3), .second, .val (.long q4), .second, .val (.long q5), .second, .val (.ref b1), .val (.int (own_z (own_held q0 q2 q3))), .val (.int (own_z (own_held q0 q2 (9223372036854775807 : Int64)))), .val (.int (own_z (own_held q0 (-9223372036854775808 : Int64) q3)))] [])) (fun t kt => ?_) ?_
        · show Steps p.tables e below (T16.setTop (mkF m 119 #[.val (.long q0), .second, .val (.long q1), .second, .val (.long q2), .second, .val (.long q3), .second, .val (.long q4), .second, .val (.long q5), .second, .val (.ref b1), .val (.int (own_z (own_held q0 q2 q3))), .val (.int (own_z (own_held q0 q2 (9223372036854775807 : Int64)))), .val (.int (own_z (own_held q0 (-9223372036854775808 : Int64) q3)))] [(.int (own_z (own_held q0 (-9223372036854775808 : Int64) q5)))])) t
          refine XS.ifYes X16.here hx rfl (pc0 := 119) (pc' := 124) rfl (hb hby at_119) rfl (own_zY_ne (show (own_held q0 (-9223372036854775808 : Int64) q5) from own_h5 hc101_14 hc106_15)) (by decide) (by decide) ?_
          show Steps p.tables e below (T16.setTop (mkF m 124 #[.val (.long q0), .second, .val (.long q1), .second, .val (.long q2), .second, .val (.long q3), .second, .val (.long q4), .second, .val (.long q5), .second, .val (.ref b1), .val (.int (own_z (own_held q0 q2 q3))), .val (.int (own_z (own_held q0 q2 (9223372036854775807 : Int64)))), .val (.int (own_z (own_held q0 (-9223372036854775808 : Int64) q3)))] [])) t
          exact kt
        exact J124 T16 _ X16 Nj13 e16
      · refine own_go (T' := Tj13) (f' := (mkF m 124 #[.val (.long q0), .second, .val (.long q1), .second, .val (.long q2), .second, .val (.long q3), .second, .val (.long q4), .second, .val (.long q5), .second, .val (.ref b1), .val (.int (own_z (own_held q0 q2 q3))), .val (.int (own_z (own_held q0 q2 (9223372036854775807 : Int64)))), .val (.int (own_z (own_held q0 (-9223372036854775808 : Int64) q3)))] [])) (fun t kt => ?_) ?_
        · show Steps p.tables e below (Tj13.setTop (mkF m 106 #[.val (.long q0), .second, .val (.long q1), .second, .val (.long q2), .second, .val (.long q3), .second, .val (.long q4), .second, .val (.long q5), .second, .val (.ref b1), .val (.int (own_z (own_held q0 q2 q3))), .val (.int (own_z (own_held q0 q2 (9223372036854775807 : Int64)))), .val (.int (own_z (own_held q0 (-9223372036854775808 : Int64) q3)))] [(.int (own_z (own_held q0 (-9223372036854775808 : Int64) q3)))])) t
          refine XS.ifYes Xj13.here hx rfl (pc0 := 106) (pc' := 124) rfl (hb hby at_106) rfl (own_zY_eq hc106_15) (by decide) (by decide) ?_
          show Steps p.tables e below (Tj13.setTop (mkF m 124 #[.val (.long q0), .second, .val (.long q1), .second, .val (.long q2), .second, .val (.long q3), .second, .val (.long q4), .second, .val (.long q5), .second, .val (.ref b1), .val (.int (own_z (own_held q0 q2 q3))), .val (.int (own_z (own_held q0 q2 (9223372036854775807 : Int64)))), .val (.int (own_z (own_held q0 (-9223372036854775808 : Int64) q3)))] [])) t
          exact kt
        exact J124 Tj13 _ Xj13 Nj13 ej13
  have J68 : ∀ (Tj17 : State) (lj17 : List Loc) (Xj17 : Stand p l e room_1 s m #[(.long q0), (.long q1), (.long q2), (.long q3), (.long q4), (.long q5)] below meth c Tj17 lj17 1 2) (Nj17 : Fr n0 lj17) (ej17 : Tj17.heap = T2.heap), own_End p e below P Tj17 (mkF m 68 #[.val (.long q0), .second, .val (.long q1), .second, .val (.long q2), .second, .val (.long q3), .second, .val (.long q4), .second, .val (.long q5), .second, .val (.ref b1), .val (.int (own_z (own_held q0 q2 q3))), .val (.int (own_z (own_held q0 q2 (9223372036854775807 : Int64)))), .val (.int (own_z (own_held q0 (-9223372036854775808 : Int64) q3)))] []) := by
    intro Tj17 lj17 Xj17 Nj17 ej17
    refine own_go (T' := Tj17) (f' := (mkF m 73 #[.val (.long q0), .second, .val (.long q1), .second, .val (.long q2), .second, .val (.long q3), .second, .val (.long q4), .second, .val (.long q5), .second, .val (.ref b1), .val (.int (own_z (own_held q0 q2 q3))), .val (.int (own_z (own_held q0 q2 (9223372036854775807 : Int64)))), .val (.int (own_z (own_held q0 (-9223372036854775808 : Int64) q3)))] [(.int (lcmpW q4 q2))])) (fun t kt => ?_) ?_
    · show Steps p.tables e below (Tj17.setTop (mkF m 68 #[.val (.long q0), .second, .val (.long q1), .second, .val (.long q2), .second, .val (.long q3), .second, .val (.long q4), .second, .val (.long q5), .second, .val (.ref b1), .val (.int (own_z (own_held q0 q2 q3))), .val (.int (own_z (own_held q0 q2 (9223372036854775807 : Int64)))), .val (.int (own_z (own_held q0 (-9223372036854775808 : Int64) q3)))] [])) t
      refine XS.lload Xj17.here hx rfl (hb hby at_68) rfl ?_
      show Steps p.tables e below (Tj17.setTop (mkF m 70 #[.val (.long q0), .second, .val (.long q1), .second, .val (.long q2), .second, .val (.long q3), .second, .val (.long q4), .second, .val (.long q5), .second, .val (.ref b1), .val (.int (own_z (own_held q0 q2 q3))), .val (.int (own_z (own_held q0 q2 (9223372036854775807 : Int64)))), .val (.int (own_z (own_held q0 (-9223372036854775808 : Int64) q3)))] [(.long q4)])) t
      refine XS.lload Xj17.here hx rfl (hb hby at_70) rfl ?_
      show Steps p.tables e below (Tj17.setTop (mkF m 72 #[.val (.long q0), .second, .val (.long q1), .second, .val (.long q2), .second, .val (.long q3), .second, .val (.long q4), .second, .val (.long q5), .second, .val (.ref b1), .val (.int (own_z (own_held q0 q2 q3))), .val (.int (own_z (own_held q0 q2 (9223372036854775807 : Int64)))), .val (.int (own_z (own_held q0 (-9223372036854775808 : Int64) q3)))] [(.long q2), (.long q4)])) t
      refine XS.lcmp Xj17.here hx rfl (hb hby at_72) rfl ?_
      show Steps p.tables e below (Tj17.setTop (mkF m 73 #[.val (.long q0), .second, .val (.long q1), .second, .val (.long q2), .second, .val (.long q3), .second, .val (.long q4), .second, .val (.long q5), .second, .val (.ref b1), .val (.int (own_z (own_held q0 q2 q3))), .val (.int (own_z (own_held q0 q2 (9223372036854775807 : Int64)))), .val (.int (own_z (own_held q0 (-9223372036854775808 : Int64) q3)))] [(.int (lcmpW q4 q2))])) t
      exact kt
    by_cases hc73_18 : q2 < q4
    · refine own_go (T' := Tj17) (f' := (mkF m 96 #[.val (.long q0), .second, .val (.long q1), .second, .val (.long q2), .second, .val (.long q3), .second, .val (.long q4), .second, .val (.long q5), .second, .val (.ref b1), .val (.int (own_z (own_held q0 q2 q3))), .val (.int (own_z (own_held q0 q2 (9223372036854775807 : Int64)))), .val (.int (own_z (own_held q0 (-9223372036854775808 : Int64) q3)))] [])) (fun t kt => ?_) ?_
      · show Steps p.tables e below (Tj17.setTop (mkF m 73 #[.val (.long q0), .second, .val (.long q1), .second, .val (.long q2), .second, .val (.long q3), .second, .val (.long q4), .second, .val (.long q5), .second, .val (.ref b1), .val (.int (own_z (own_held q0 q2 q3))), .val (.int (own_z (own_held q0 q2 (9223372036854775807 : Int64)))), .val (.int (own_z (own_held q0 (-9223372036854775808 : Int64) q3)))] [(.int (lcmpW q4 q2))])) t
        refine XS.ifYes Xj17.here hx rfl (pc0 := 73) (pc' := 96) rfl (hb hby at_73) rfl (own_lY_gt hc73_18) (by decide) (by decide) ?_
        show Steps p.tables e below (Tj17.setTop (mkF m 96 #[.val (.long q0), .second, .val (.long q1), .second, .val (.long q2), .second, .val (.long q3), .second, .val (.long q4), .second, .val (.long q5), .second, .val (.ref b1), .val (.int (own_z (own_held q0 q2 q3))), .val (.int (own_z (own_held q0 q2 (9223372036854775807 : Int64)))), .val (.int (own_z (own_held q0 (-9223372036854775808 : Int64) q3)))] [])) t
        exact kt
      exact J96 Tj17 _ Xj17 Nj17 ej17
    · refine own_go (T' := Tj17) (f' := (mkF m 78 #[.val (.long q0), .second, .val (.long q1), .second, .val (.long q2), .second, .val (.long q3), .second, .val (.long q4), .second, .val (.long q5), .second, .val (.ref b1), .val (.int (own_z (own_held q0 q2 q3))), .val (.int (own_z (own_held q0 q2 (9223372036854775807 : Int64)))), .val (.int (own_z (own_held q0 (-9223372036854775808 : Int64) q3)))] [(.int (own_z (own_held q0 q2 (9223372036854775807 : Int64))))])) (fun t kt => ?_) ?_
      · show Steps p.tables e below (Tj17.setTop (mkF m 73 #[.val (.long q0), .second, .val (.long q1), .second, .val (.long q2), .second, .val (.long q3), .second, .val (.long q4), .second, .val (.long q5), .second, .val (.ref b1), .val (.int (own_z (own_held q0 q2 q3))), .val (.int (own_z (own_held q0 q2 (9223372036854775807 : Int64)))), .val (.int (own_z (own_held q0 (-9223372036854775808 : Int64) q3)))] [(.int (lcmpW q4 q2))])) t
        refine XS.ifNo Xj17.here hx rfl (hb hby at_73) rfl (own_lN_gt hc73_18) ?_
        show Steps p.tables e below (Tj17.setTop (mkF m 76 #[.val (.long q0), .second, .val (.long q1), .second, .val (.long q2), .second, .val (.long q3), .second, .val (.long q4), .second, .val (.long q5), .second, .val (.ref b1), .val (.int (own_z (own_held q0 q2 q3))), .val (.int (own_z (own_held q0 q2 (9223372036854775807 : Int64)))), .val (.int (own_z (own_held q0 (-9223372036854775808 : Int64) q3)))] [])) t
        refine XS.iload Xj17.here hx rfl (hb hby at_76) rfl ?_
        show Steps p.tables e below (Tj17.setTop (mkF m 78 #[.val (.long q0), .second, .val (.long q1), .second, .val (.long q2), .second, .val (.long q3), .second, .val (.long q4), .second, .val (.long q5), .second, .val (.ref b1), .val (.int (own_z (own_held q0 q2 q3))), .val (.int (own_z (own_held q0 q2 (9223372036854775807 : Int64)))), .val (.int (own_z (own_held q0 (-9223372036854775808 : Int64) q3)))] [(.int (own_z (own_held q0 q2 (9223372036854775807 : Int64))))])) t
        exact kt
      by_cases hc78_19 : (own_held q0 q2 (9223372036854775807 : Int64))
      · refine own_go (T' := Tj17) (f' := (mkF m 88 #[.val (.long q0), .second, .val (.long q1), .second, .val (.long q2), .second, .val (.long q3), .second, .val (.long q4), .second, .val (.long q5), .second, .val (.ref b1), .val (.int (own_z (own_held q0 q2 q3))), .val (.int (own_z (own_held q0 q2 (9223372036854775807 : Int64)))), .val (.int (own_z (own_held q0 (-9223372036854775808 : Int64) q3)))] [(.long (9223372036854775807 : Int64)), (.long q4), (.ref b1)])) (fun t kt => ?_) ?_
        · show Steps p.tables e below (Tj17.setTop (mkF m 78 #[.val (.long q0), .second, .val (.long q1), .second, .val (.long q2), .second, .val (.long q3), .second, .val (.long q4), .second, .val (.long q5), .second, .val (.ref b1), .val (.int (own_z (own_held q0 q2 q3))), .val (.int (own_z (own_held q0 q2 (9223372036854775807 : Int64)))), .val (.int (own_z (own_held q0 (-9223372036854775808 : Int64) q3)))] [(.int (own_z (own_held q0 q2 (9223372036854775807 : Int64))))])) t
          refine XS.ifNo Xj17.here hx rfl (hb hby at_78) rfl (own_zN_eq hc78_19) ?_
          show Steps p.tables e below (Tj17.setTop (mkF m 81 #[.val (.long q0), .second, .val (.long q1), .second, .val (.long q2), .second, .val (.long q3), .second, .val (.long q4), .second, .val (.long q5), .second, .val (.ref b1), .val (.int (own_z (own_held q0 q2 q3))), .val (.int (own_z (own_held q0 q2 (9223372036854775807 : Int64)))), .val (.int (own_z (own_held q0 (-9223372036854775808 : Int64) q3)))] [])) t
          refine XS.aload Xj17.here hx rfl (hb hby at_81) rfl rfl ?_
          show Steps p.tables e below (Tj17.setTop (mkF m 83 #[.val (.long q0), .second, .val (.long q1), .second, .val (.long q2), .second, .val (.long q3), .second, .val (.long q4), .second, .val (.long q5), .second, .val (.ref b1), .val (.int (own_z (own_held q0 q2 q3))), .val (.int (own_z (own_held q0 q2 (9223372036854775807 : Int64)))), .val (.int (own_z (own_held q0 (-9223372036854775808 : Int64) q3)))] [(.ref b1)])) t
          refine XS.lload Xj17.here hx rfl (hb hby at_83) rfl ?_
          show Steps p.tables e below (Tj17.setTop (mkF m 85 #[.val (.long q0), .second, .val (.long q1), .second, .val (.long q2), .second, .val (.long q3), .second, .val (.long q4), .second, .val (.long q5), .second, .val (.ref b1), .val (.int (own_z (own_held q0 q2 q3))), .val (.int (own_z (own_held q0 q2 (9223372036854775807 : Int64)))), .val (.int (own_z (own_held q0 (-9223372036854775808 : Int64) q3)))] [(.long q4), (.ref b1)])) t
          refine Xj17.ldc2Long hx hown (mvT hZ (hw _ (List.mem_of_getElem? (i := 23) rfl))) (g := (mkF m 85 #[.val (.long q0), .second, .val (.long q1), .second, .val (.long q2), .second, .val (.long q3), .second, .val (.long q4), .second, .val (.long q5), .second, .val (.ref b1), .val (.int (own_z (own_held q0 q2 q3))), .val (.int (own_z (own_held q0 q2 (9223372036854775807 : Int64)))), .val (.int (own_z (own_held q0 (-9223372036854775808 : Int64) q3)))] [(.long q4), (.ref b1)])) rfl (hb hby at_85) _ ?_
          show Steps p.tables e below (Tj17.setTop (mkF m 88 #[.val (.long q0), .second, .val (.long q1), .second, .val (.long q2), .second, .val (.long q3), .second, .val (.long q4), .second, .val (.long q5), .second, .val (.ref b1), .val (.int (own_z (own_held q0 q2 q3))), .val (.int (own_z (own_held q0 q2 (9223372036854775807 : Int64)))), .val (.int (own_z (own_held q0 (-9223372036854775808 : Int64) q3)))] [(.long (9223372036854775807 : Int64)), (.long q4), (.ref b1)])) t
          exact kt
        refine own_callVp Xj17 hx hZ hown ej17 (hw _ (List.mem_of_getElem? (i := 18) rfl)) (hw _ (List.mem_of_getElem? (i := 19) rfl)) (notFace_of_selects (args := #[]) (mvT hZ (hw _ (List.mem_of_getElem? (i := 21) rfl)))) (hw _ (List.mem_of_getElem? (i := 21) rfl)) (hw _ (List.mem_of_getElem? (i := 20) rfl)) (hw _ (List.mem_of_getElem? (i := 2) rfl)) (hw _ (List.mem_of_getElem? (i := 22) rfl)) (by decide) (rm4 l Z aw hw b1 q4 (9223372036854775807 : Int64) q0 T2.heap n0 ZKq2 Pq2_1) Pq2_0 (g := (mkF m 88 #[.val (.long q0), .second, .val (.long q1), .second, .val (.long q2), .second, .val (.long q3), .second, .val (.long q4), .second, .val (.long q5), .second, .val (.ref b1), .val (.int (own_z (own_held q0 q2 q3))), .val (.int (own_z (own_held q0 q2 (9223372036854775807 : Int64)))), .val (.int (own_z (own_held q0 (-9223372036854775808 : Int64) q3)))] [(.long (9223372036854775807 : Int64)), (.long q4), (.ref b1)])) rfl (by rw [hml]; rfl) (argsL := [(.long q4), (.long (9223372036854775807 : Int64))]) (rest := []) (lenOf pd_2 rfl) rfl rfl (W := 0) (by show 2 * 0 + _ ≤ _; exact Nat.le_of_eq rfl) (hb hby at_88) (by decide) (by decide) (by decide) (by decide) ?_
        intro T20 X20 e20
        refine own_go (T' := T20) (f' := (mkF m 96 #[.val (.long q0), .second, .val (.long q1), .second, .val (.long q2), .second, .val (.long q3), .second, .val (.long q4), .second, .val (.long q5), .second, .val (.ref b1), .val (.int (own_z (own_held q0 q2 q3))), .val (.int (own_z (own_held q0 q2 (9223372036854775807 : Int64)))), .val (.int (own_z (own_held q0 (-9223372036854775808 : Int64) q3)))] [])) (fun t kt => ?_) ?_
        · show Steps p.tables e below (T20.setTop (mkF m 91 #[.val (.long q0), .second, .val (.long q1), .second, .val (.long q2), .second, .val (.long q3), .second, .val (.long q4), .second, .val (.long q5), .second, .val (.ref b1), .val (.int (own_z (own_held q0 q2 q3))), .val (.int (own_z (own_held q0 q2 (9223372036854775807 : Int64)))), .val (.int (own_z (own_held q0 (-9223372036854775808 : Int64) q3)))] [(.int (own_z (own_held q0 q4 (9223372036854775807 : Int64))))])) t
          refine XS.ifYes X20.here hx rfl (pc0 := 91) (pc' := 96) rfl (hb hby at_91) rfl (own_zY_ne (show (own_held q0 q4 (9223372036854775807 : Int64)) from own_h4 hc73_18 hc78_19)) (by decide) (by decide) ?_
          show Steps p.tables e below (T20.setTop (mkF m 96 #[.val (.long q0), .second, .val (.long q1), .second, .val (.long q2), .second, .val (.long q3), .second, .val (.long q4), .second, .val (.long q5), .second, .val (.ref b1), .val (.int (own_z (own_held q0 q2 q3))), .val (.int (own_z (own_held q0 q2 (9223372036854775807 : Int64)))), .val (.int (own_z (own_held q0 (-9223372036854775808 : Int64) q3)))] [])) t
          exact kt
        exact J96 T20 _ X20 Nj17 e20
      · refine own_go (T' := Tj17) (f' := (mkF m 96 #[.val (.long q0), .second, .val (.long q1), .second, .val (.long q2), .second, .val (.long q3), .second, .val (.long q4), .second, .val (.long q5), .second, .val (.ref b1), .val (.int (own_z (own_held q0 q2 q3))), .val (.int (own_z (own_held q0 q2 (9223372036854775807 : Int64)))), .val (.int (own_z (own_held q0 (-9223372036854775808 : Int64) q3)))] [])) (fun t kt => ?_) ?_
        · show Steps p.tables e below (Tj17.setTop (mkF m 78 #[.val (.long q0), .second, .val (.long q1), .second, .val (.long q2), .second, .val (.long q3), .second, .val (.long q4), .second, .val (.long q5), .second, .val (.ref b1), .val (.int (own_z (own_held q0 q2 q3))), .val (.int (own_z (own_held q0 q2 (9223372036854775807 : Int64)))), .val (.int (own_z (own_held q0 (-9223372036854775808 : Int64) q3)))] [(.int (own_z (own_held q0 q2 (9223372036854775807 : Int64))))])) t
          refine XS.ifYes Xj17.here hx rfl (pc0 := 78) (pc' := 96) rfl (hb hby at_78) rfl (own_zY_eq hc78_19) (by decide) (by decide) ?_
          show Steps p.tables e below (Tj17.setTop (mkF m 96 #[.val (.long q0), .second, .val (.long q1), .second, .val (.long q2), .second, .val (.long q3), .second, .val (.long q4), .second, .val (.long q5), .second, .val (.ref b1), .val (.int (own_z (own_held q0 q2 q3))), .val (.int (own_z (own_held q0 q2 (9223372036854775807 : Int64)))), .val (.int (own_z (own_held q0 (-9223372036854775808 : Int64) q3)))] [])) t
          exact kt
        exact J96 Tj17 _ Xj17 Nj17 ej17
  refine own_go (T' := T5) (f' := (mkF m 50 #[.val (.long q0), .second, .val (.long q1), .second, .val (.long q2), .second, .val (.long q3), .second, .val (.long q4), .second, .val (.long q5), .second, .val (.ref b1), .val (.int (own_z (own_held q0 q2 q3))), .val (.int (own_z (own_held q0 q2 (9223372036854775807 : Int64)))), .val (.int (own_z (own_held q0 (-9223372036854775808 : Int64) q3)))] [(.int (own_z (own_held q0 q2 (9223372036854775807 : Int64)))), (.int (own_z (own_held q0 q2 q3)))])) (fun t kt => ?_) ?_
  · show Steps p.tables e below (T5.setTop (mkF m 46 #[.val (.long q0), .second, .val (.long q1), .second, .val (.long q2), .second, .val (.long q3), .second, .val (.long q4), .second, .val (.long q5), .second, .val (.ref b1), .val (.int (own_z (own_held q0 q2 q3))), .val (.int (own_z (own_held q0 q2 (9223372036854775807 : Int64)))), .val (.int (own_z (own_held q0 (-9223372036854775808 : Int64) q3)))] [])) t
    refine XS.iload X5.here hx rfl (hb hby at_46) rfl ?_
    show Steps p.tables e below (T5.setTop (mkF m 48 #[.val (.long q0), .second, .val (.long q1), .second, .val (.long q2), .second, .val (.long q3), .second, .val (.long q4), .second, .val (.long q5), .second, .val (.ref b1), .val (.int (own_z (own_held q0 q2 q3))), .val (.int (own_z (own_held q0 q2 (9223372036854775807 : Int64)))), .val (.int (own_z (own_held q0 (-9223372036854775808 : Int64) q3)))] [(.int (own_z (own_held q0 q2 q3)))])) t
    refine XS.iload X5.here hx rfl (hb hby at_48) rfl ?_
    show Steps p.tables e below (T5.setTop (mkF m 50 #[.val (.long q0), .second, .val (.long q1), .second, .val (.long q2), .second, .val (.long q3), .second, .val (.long q4), .second, .val (.long q5), .second, .val (.ref b1), .val (.int (own_z (own_held q0 q2 q3))), .val (.int (own_z (own_held q0 q2 (9223372036854775807 : Int64)))), .val (.int (own_z (own_held q0 (-9223372036854775808 : Int64) q3)))] [(.int (own_z (own_held q0 q2 (9223372036854775807 : Int64)))), (.int (own_z (own_held q0 q2 q3)))])) t
    exact kt
  by_cases hc50_21 : (own_held q0 q2 (9223372036854775807 : Int64))
  · refine own_go (T' := T5) (f' := (mkF m 55 #[.val (.long q0), .second, .val (.long q1), .second, .val (.long q2), .second, .val (.long q3), .second, .val (.long q4), .second, .val (.long q5), .second, .val (.ref b1), .val (.int (own_z (own_held q0 q2 q3))), .val (.int (own_z (own_held q0 q2 (9223372036854775807 : Int64)))), .val (.int (own_z (own_held q0 (-9223372036854775808 : Int64) q3)))] [(.int (own_z (own_held q0 (-9223372036854775808 : Int64) q3))), (.int (own_z (own_held q0 q2 q3)))])) (fun t kt => ?_) ?_
    · show Steps p.tables e below (T5.setTop (mkF m 50 #[.val (.long q0), .second, .val (.long q1), .second, .val (.long q2), .second, .val (.long q3), .second, .val (.long q4), .second, .val (.long q5), .second, .val (.ref b1), .val (.int (own_z (own_held q0 q2 q3))), .val (.int (own_z (own_held q0 q2 (9223372036854775807 : Int64)))), .val (.int (own_z (own_held q0 (-9223372036854775808 : Int64) q3)))] [(.int (own_z (own_held q0 q2 (9223372036854775807 : Int64)))), (.int (own_z (own_held q0 q2 q3)))])) t
      refine XS.ifNo X5.here hx rfl (hb hby at_50) rfl (own_zN_eq hc50_21) ?_
      show Steps p.tables e below (T5.setTop (mkF m 53 #[.val (.long q0), .second, .val (.long q1), .second, .val (.long q2), .second, .val (.long q3), .second, .val (.long q4), .second, .val (.long q5), .second, .val (.ref b1), .val (.int (own_z (own_held q0 q2 q3))), .val (.int (own_z (own_held q0 q2 (9223372036854775807 : Int64)))), .val (.int (own_z (own_held q0 (-9223372036854775808 : Int64) q3)))] [(.int (own_z (own_held q0 q2 q3)))])) t
      refine XS.iload X5.here hx rfl (hb hby at_53) rfl ?_
      show Steps p.tables e below (T5.setTop (mkF m 55 #[.val (.long q0), .second, .val (.long q1), .second, .val (.long q2), .second, .val (.long q3), .second, .val (.long q4), .second, .val (.long q5), .second, .val (.ref b1), .val (.int (own_z (own_held q0 q2 q3))), .val (.int (own_z (own_held q0 q2 (9223372036854775807 : Int64)))), .val (.int (own_z (own_held q0 (-9223372036854775808 : Int64) q3)))] [(.int (own_z (own_held q0 (-9223372036854775808 : Int64) q3))), (.int (own_z (own_held q0 q2 q3)))])) t
      exact kt
    by_cases hc55_22 : (own_held q0 (-9223372036854775808 : Int64) q3)
    · refine own_go (T' := T5) (f' := (mkF m 68 #[.val (.long q0), .second, .val (.long q1), .second, .val (.long q2), .second, .val (.long q3), .second, .val (.long q4), .second, .val (.long q5), .second, .val (.ref b1), .val (.int (own_z (own_held q0 q2 q3))), .val (.int (own_z (own_held q0 q2 (9223372036854775807 : Int64)))), .val (.int (own_z (own_held q0 (-9223372036854775808 : Int64) q3)))] [])) (fun t kt => ?_) ?_
      · show Steps p.tables e below (T5.setTop (mkF m 55 #[.val (.long q0), .second, .val (.long q1), .second, .val (.long q2), .second, .val (.long q3), .second, .val (.long q4), .second, .val (.long q5), .second, .val (.ref b1), .val (.int (own_z (own_held q0 q2 q3))), .val (.int (own_z (own_held q0 q2 (9223372036854775807 : Int64)))), .val (.int (own_z (own_held q0 (-9223372036854775808 : Int64) q3)))] [(.int (own_z (own_held q0 (-9223372036854775808 : Int64) q3))), (.int (own_z (own_held q0 q2 q3)))])) t
        refine XS.ifNo X5.here hx rfl (hb hby at_55) rfl (own_zN_eq hc55_22) ?_
        show Steps p.tables e below (T5.setTop (mkF m 58 #[.val (.long q0), .second, .val (.long q1), .second, .val (.long q2), .second, .val (.long q3), .second, .val (.long q4), .second, .val (.long q5), .second, .val (.ref b1), .val (.int (own_z (own_held q0 q2 q3))), .val (.int (own_z (own_held q0 q2 (9223372036854775807 : Int64)))), .val (.int (own_z (own_held q0 (-9223372036854775808 : Int64) q3)))] [(.int (own_z (own_held q0 q2 q3)))])) t
        refine XS.iconst X5.here hx rfl (hb hby at_58) ?_
        show Steps p.tables e below (T5.setTop (mkF m 59 #[.val (.long q0), .second, .val (.long q1), .second, .val (.long q2), .second, .val (.long q3), .second, .val (.long q4), .second, .val (.long q5), .second, .val (.ref b1), .val (.int (own_z (own_held q0 q2 q3))), .val (.int (own_z (own_held q0 q2 (9223372036854775807 : Int64)))), .val (.int (own_z (own_held q0 (-9223372036854775808 : Int64) q3)))] [(.int (1 : Int32)), (.int (own_z (own_held q0 q2 q3)))])) t
        refine XS.goto X5.here hx rfl (pc0 := 59) (pc' := 63) rfl (hb hby at_59) (by decide) (by decide) ?_
        show Steps p.tables e below (T5.setTop (mkF m 63 #[.val (.long q0), .second, .val (.long q1), .second, .val (.long q2), .second, .val (.long q3), .second, .val (.long q4), .second, .val (.long q5), .second, .val (.ref b1), .val (.int (own_z (own_held q0 q2 q3))), .val (.int (own_z (own_held q0 q2 (9223372036854775807 : Int64)))), .val (.int (own_z (own_held q0 (-9223372036854775808 : Int64) q3)))] [(.int (1 : Int32)), (.int (own_z (own_held q0 q2 q3)))])) t
        refine XS.icmpYes X5.here hx rfl (pc0 := 63) (pc' := 68) rfl (hb hby at_63) rfl (teq (show (own_z (own_held q0 q2 q3)) = (1 : Int32) from own_z_t (own_h3 hc50_21 hc55_22))).1 (by decide) (by decide) ?_
        show Steps p.tables e below (T5.setTop (mkF m 68 #[.val (.long q0), .second, .val (.long q1), .second, .val (.long q2), .second, .val (.long q3), .second, .val (.long q4), .second, .val (.long q5), .second, .val (.ref b1), .val (.int (own_z (own_held q0 q2 q3))), .val (.int (own_z (own_held q0 q2 (9223372036854775807 : Int64)))), .val (.int (own_z (own_held q0 (-9223372036854775808 : Int64) q3)))] [])) t
        exact kt
      exact J68 T5 _ X5 N2 e5
    · refine own_go (T' := T5) (f' := (mkF m 68 #[.val (.long q0), .second, .val (.long q1), .second, .val (.long q2), .second, .val (.long q3), .second, .val (.long q4), .second, .val (.long q5), .second, .val (.ref b1), .val (.int (own_z (own_held q0 q2 q3))), .val (.int (own_z (own_held q0 q2 (9223372036854775807 : Int64)))), .val (.int (own_z (own_held q0 (-9223372036854775808 : Int64) q3)))] [])) (fun t kt => ?_) ?_
      · show Steps p.tables e below (T5.setTop (mkF m 55 #[.val (.long q0), .second, .val (.long q1), .second, .val (.long q2), .second, .val (.long q3), .second, .val (.long q4), .second, .val (.long q5), .second, .val (.ref b1), .val (.int (own_z (own_held q0 q2 q3))), .val (.int (own_z (own_held q0 q2 (9223372036854775807 : Int64)))), .val (.int (own_z (own_held q0 (-9223372036854775808 : Int64) q3)))] [(.int (own_z (own_held q0 (-9223372036854775808 : Int64) q3))), (.int (own_z (own_held q0 q2 q3)))])) t
        refine XS.ifYes X5.here hx rfl (pc0 := 55) (pc' := 62) rfl (hb hby at_55) rfl (own_zY_eq hc55_22) (by decide) (by decide) ?_
        show Steps p.tables e below (T5.setTop (mkF m 62 #[.val (.long q0), .second, .val (.long q1), .second, .val (.long q2), .second, .val (.long q3), .second, .val (.long q4), .second, .val (.long q5), .second, .val (.ref b1), .val (.int (own_z (own_held q0 q2 q3))), .val (.int (own_z (own_held q0 q2 (9223372036854775807 : Int64)))), .val (.int (own_z (own_held q0 (-9223372036854775808 : Int64) q3)))] [(.int (own_z (own_held q0 q2 q3)))])) t
        refine XS.iconst X5.here hx rfl (hb hby at_62) ?_
        show Steps p.tables e below (T5.setTop (mkF m 63 #[.val (.long q0), .second, .val (.long q1), .second, .val (.long q2), .second, .val (.long q3), .second, .val (.long q4), .second, .val (.long q5), .second, .val (.ref b1), .val (.int (own_z (own_held q0 q2 q3))), .val (.int (own_z (own_held q0 q2 (9223372036854775807 : Int64)))), .val (.int (own_z (own_held q0 (-9223372036854775808 : Int64) q3)))] [(.int (0 : Int32)), (.int (own_z (own_held q0 q2 q3)))])) t
        refine XS.icmpYes X5.here hx rfl (pc0 := 63) (pc' := 68) rfl (hb hby at_63) rfl (teq (show (own_z (own_held q0 q2 q3)) = (0 : Int32) from own_z_f (fun h => hc55_22 (own_h2 h)))).1 (by decide) (by decide) ?_
        show Steps p.tables e below (T5.setTop (mkF m 68 #[.val (.long q0), .second, .val (.long q1), .second, .val (.long q2), .second, .val (.long q3), .second, .val (.long q4), .second, .val (.long q5), .second, .val (.ref b1), .val (.int (own_z (own_held q0 q2 q3))), .val (.int (own_z (own_held q0 q2 (9223372036854775807 : Int64)))), .val (.int (own_z (own_held q0 (-9223372036854775808 : Int64) q3)))] [])) t
        exact kt
      exact J68 T5 _ X5 N2 e5
  · refine own_go (T' := T5) (f' := (mkF m 68 #[.val (.long q0), .second, .val (.long q1), .second, .val (.long q2), .second, .val (.long q3), .second, .val (.long q4), .second, .val (.long q5), .second, .val (.ref b1), .val (.int (own_z (own_held q0 q2 q3))), .val (.int (own_z (own_held q0 q2 (9223372036854775807 : Int64)))), .val (.int (own_z (own_held q0 (-9223372036854775808 : Int64) q3)))] [])) (fun t kt => ?_) ?_
    · show Steps p.tables e below (T5.setTop (mkF m 50 #[.val (.long q0), .second, .val (.long q1), .second, .val (.long q2), .second, .val (.long q3), .second, .val (.long q4), .second, .val (.long q5), .second, .val (.ref b1), .val (.int (own_z (own_held q0 q2 q3))), .val (.int (own_z (own_held q0 q2 (9223372036854775807 : Int64)))), .val (.int (own_z (own_held q0 (-9223372036854775808 : Int64) q3)))] [(.int (own_z (own_held q0 q2 (9223372036854775807 : Int64)))), (.int (own_z (own_held q0 q2 q3)))])) t
      refine XS.ifYes X5.here hx rfl (pc0 := 50) (pc' := 62) rfl (hb hby at_50) rfl (own_zY_eq hc50_21) (by decide) (by decide) ?_
      show Steps p.tables e below (T5.setTop (mkF m 62 #[.val (.long q0), .second, .val (.long q1), .second, .val (.long q2), .second, .val (.long q3), .second, .val (.long q4), .second, .val (.long q5), .second, .val (.ref b1), .val (.int (own_z (own_held q0 q2 q3))), .val (.int (own_z (own_held q0 q2 (9223372036854775807 : Int64)))), .val (.int (own_z (own_held q0 (-9223372036854775808 : Int64) q3)))] [(.int (own_z (own_held q0 q2 q3)))])) t
      refine XS.iconst X5.here hx rfl (hb hby at_62) ?_
      show Steps p.tables e below (T5.setTop (mkF m 63 #[.val (.long q0), .second, .val (.long q1), .second, .val (.long q2), .second, .val (.long q3), .second, .val (.long q4), .second, .val (.long q5), .second, .val (.ref b1), .val (.int (own_z (own_held q0 q2 q3))), .val (.int (own_z (own_held q0 q2 (9223372036854775807 : Int64)))), .val (.int (own_z (own_held q0 (-9223372036854775808 : Int64) q3)))] [(.int (0 : Int32)), (.int (own_z (own_held q0 q2 q3)))])) t
      refine XS.icmpYes X5.here hx rfl (pc0 := 63) (pc' := 68) rfl (hb hby at_63) rfl (teq (show (own_z (own_held q0 q2 q3)) = (0 : Int32) from own_z_f (fun h => hc50_21 (own_h1 h)))).1 (by decide) (by decide) ?_
      show Steps p.tables e below (T5.setTop (mkF m 68 #[.val (.long q0), .second, .val (.long q1), .second, .val (.long q2), .second, .val (.long q3), .second, .val (.long q4), .second, .val (.long q5), .second, .val (.ref b1), .val (.int (own_z (own_held q0 q2 q3))), .val (.int (own_z (own_held q0 q2 (9223372036854775807 : Int64)))), .val (.int (own_z (own_held q0 (-9223372036854775808 : Int64) q3)))] [])) t
      exact kt
    exact J68 T5 _ X5 N2 e5
set_option maxRecDepth 65536 in
set_option maxHeartbeats 40000000 in
theorem comes_1 {Post : Tables → Env → Array Value → State → Outcome → State → Prop} (hpost : ∀ tb e args s v u, (limb_1_1.after args s (.returned v) u = true ∧ limb_1_2.after args s (.returned v) u = true ∧ True) → FrameEnd s (.returned v) u (Jvm.fieldLocs frame_1_writes args s ++ Jvm.arrayLocs frame_1_arrays args s ++ Jvm.staticLocs frame_1_statics s) 16 128 → Post tb e args s (.returned v) u) :
    ArmFor flags0 classFile x code maxLocals ret World_1 tables_1 room_1 Calls_1 rest_1 Pre_1 Post := by
  intro l hfl _ _ p e ha hc hk s m args below hf hA hF happ hP
  obtain ⟨hcalls, hrest, hpre⟩ := hP
  obtain ⟨-, -, -, hnamed, -, -, -, hat⟩ := (Spec.applies_iff hf).mp happ
  obtain ⟨hg, hn⟩ := and_e (Cond.before_iff.mp (show (Jvm.Cond.and given_1 narrow_1).before args s = true from hpre))
  obtain ⟨k1, k2⟩ := and_e hg
  obtain ⟨k3, k4⟩ := and_e k2
  obtain ⟨k5, k6⟩ := and_e k4
  obtain ⟨k7, k8⟩ := and_e k6
  obtain ⟨k9, k10⟩ := and_e k8
  obtain ⟨k11, k12⟩ := and_e k10
  obtain ⟨w0, w1, w2, w3, w4, w5, rfl⟩ : ∃ w0 w1 w2 w3 w4 w5 : Value, args = #[w0, w1, w2, w3, w4, w5] := by
    have hs : args.size = 6 := by simpa [Cond.value, given_1] using k1
    obtain ⟨L⟩ := args
    match L, hs with
    | [w0, w1, w2, w3, w4, w5], _ => exact ⟨w0, w1, w2, w3, w4, w5, rfl⟩
  have hw := fun d (hd : d ∈ tables_1) => atoms_spec (ws := Jvm.Cond.code x code maxLocals ret :: tables_1) hat d (List.mem_cons_of_mem _ hd)
  obtain ⟨i0, ei0⟩ := isL_v k3
  obtain rfl : w0 = (.long i0) := Option.some.inj ei0
  obtain ⟨i1, ei1⟩ := isL_v k5
  obtain rfl : w1 = (.long i1) := Option.some.inj ei1
  obtain ⟨i2, ei2⟩ := isL_v k7
  obtain rfl : w2 = (.long i2) := Option.some.inj ei2
  obtain ⟨i3, ei3⟩ := isL_v k9
  obtain rfl : w3 = (.long i3) := Option.some.inj ei3
  obtain ⟨i4, ei4⟩ := isL_v k11
  obtain rfl : w4 = (.long i4) := Option.some.inj ei4
  obtain ⟨i5, ei5⟩ := isL_v k12
  obtain rfl : w5 = (.long i5) := Option.some.inj ei5
  obtain ⟨n, o, h1, h2, h3, _, L, rfl, ⟨rfl, N⟩, hq⟩ := rm0 l s _ hw (ws := tables_1) i0 i1 i2 i3 i4 i5 s.heap s.heap.size (Nat.le_refl _)  p e ha hc hk s m _ below hf ((Spec.applies_iff_loose hf).mp happ).1 ⟨rfl, State.Warmed39.refl s, rfl⟩ trivial
  refine ⟨n, _, h1, h2, h3, hpost _ _ _ _ _ _ ⟨Cond.after_iff.mpr rfl, Cond.after_iff.mpr (eq_i res_at (Term.int_eval (1)) rfl), trivial⟩ ⟨hq.1, hq.2.1, (hq.2.2.sift fun y hy => Or.inr (N y hy)).mono (by decide) (by decide)⟩⟩
theorem main_1_1 : Claimed_1_1 := comes_1 fun _ _ _ _ _ _ h hF => ⟨h.1, hF⟩
theorem main_1_2 : Claimed_1_2 := comes_1 fun _ _ _ _ _ _ h hF => ⟨h.2.1, hF⟩
end Jvm.Pilot.@@N@@
namespace Jvm.Pilot.@@N@@
open Jvm Jvm.ClassFile Sem Op Lib Jvm.Free Jvm.Stand Jvm.Pilot.@@N@@.Jvm.D
/-! MADE BY PROGRAM (witnessworld.py) out of the Statement's table words and the real class files: 10 classes; the members and pool entries that the words name. The judged class is class 1, her method 1. -/
namespace start1
open Jvm.ClassFile
def u (s : String) : CpInfo := .utf8 (stringToUtf16 s)
/-- a pool by its gaps: so many unusable entries, then the entry; so many at the end -/
def gap : Nat → List CpInfo → List CpInfo
  | 0, r => r
  | n + 1, r => .unusable :: gap n r
def poolList (es : List (Nat × CpInfo)) (last : Nat) : List CpInfo := es.foldr (fun e r => gap e.1 (e.2 :: r)) (gap last [])
def pool (es : List (Nat × CpInfo)) (last : Nat) : Array CpInfo := ⟨poolList es last⟩
def fileOf (pool : Array CpInfo) (this : Nat) (attrs : Array Attribute := #[]) (ms : Array MethodInfo := #[]) (fl : Nat := 33) (sup : Nat := 0) (ifs : Array Nat := #[]) (fds : Array FieldInfo := #[]) : ClassFile where
  minorVersion := 0
  majorVersion := 65
  constantPool := pool
  accessFlags := fl
  thisClass := this
  superClass := sup
  interfaces := ifs
  fields := fds
  methods := ms
  attributes := attrs
def plain (name : String) (sup : Option ClassId) : Class where
  name := name
  kind := .ordinary
  loader := none
  accessFlags := 33
  super := sup
  interfaces := #[]
  cf := none
  fields := #[]
  methods := #[]
  instanceTypes := #[]
  staticTypes := #[]
  resolved := #[]
  callSites := []
  init := .initialized
  statics := none
  mirror := none

def pool0 : Array CpInfo := pool [(5, u "<init>"), (0, u "()V"), (1, .class_ 10), (1, u "java/lang/Object")] 113

def k0c0 : Code := { maxStack := 0, maxLocals := 1, code := object_method_1_code, exceptionTable := #[], attributes := #[] }
def k0m0 : Method := { name := "<init>", desc := "()V", sig := { parameters := [], returnType := none }, accessFlags := 1, code := some k0c0 }
/-- java/lang/Object -/
def k0 : Class := { plain "java/lang/Object" none with
  accessFlags := 33
  interfaces := #[]
  cf := some (fileOf pool0 8 #[] #[{ accessFlags := 1, nameIndex := 5, descriptorIndex := 6, attributes := #[] }] 33 0 #[] #[])
  fields := #[]
  methods := #[k0m0]
  instanceTypes := #[]
  staticTypes := #[]
  resolved := Array.replicate 124 none
  statics := none }

def pool1 : Array CpInfo := pool [(2, .class_ 4), (1, u "java/lang/Object"), (0, u "<init>"), (0, u "()V"), (0, .class_ 8), (0, u "com/example/commit_log_store/commitlogstore/io/OffsetIndex$Entry"), (0, .methodref 7 10), (0, .nameAndType 5 11), (0, u "(JJ)V"), (0, .methodref 7 13), (0, .nameAndType 14 15), (0, u "isHeldBy"), (0, u "(JJ)Z"), (2, .long 9223372036854775807), (1, .long 9223372036854775808), (1, .class_ 23), (0, u "com/example/commit_log_store/commitlogstore/io/EntryIsHeldByPinLaw"), (2, u "law"), (0, u "(JJJJJJ)Z")] 7

def k1m0 : Method := { name := "<init>", desc := "()V", sig := { parameters := [], returnType := none }, accessFlags := 1, code := none }
def k1c1 : Code := { maxStack := 7, maxLocals := 16, code := code, exceptionTable := #[], attributes := #[] }
def k1m1 : Method := { name := "law", desc := "(JJJJJJ)Z", sig := { parameters := [.long, .long, .long, .long, .long, .long], returnType := some .boolean }, accessFlags := 9, code := some k1c1 }
/-- com/example/commit_log_store/commitlogstore/io/EntryIsHeldByPinLaw -/
def k1 : Class := { plain "com/example/commit_log_store/commitlogstore/io/EntryIsHeldByPinLaw" (some 0) with
  accessFlags := 49
  interfaces := #[]
  cf := some (fileOf pool1 22 #[] #[{ accessFlags := 1, nameIndex := 5, descriptorIndex := 6, attributes := #[] }, { accessFlags := 9, nameIndex := 26, descriptorIndex := 27, attributes := #[] }] 49 2 #[] #[])
  fields := #[]
  methods := #[k1m0, k1m1]
  instanceTypes := #[]
  staticTypes := #[]
  resolved := Array.replicate 35 none
  statics := none }

def pool2 : Array CpInfo := pool [(1, .methodref 2 3), (0, .class_ 4), (0, .nameAndType 5 6), (0, u "java/lang/Object"), (0, u "<init>"), (0, u "()V"), (0, .class_ 8), (0, u "java/lang/Record")] 13

def k2c0 : Code := { maxStack := 1, maxLocals := 1, code := jdk_30_method_1_code, exceptionTable := #[], attributes := #[] }
def k2m0 : Method := { name := "<init>", desc := "()V", sig := { parameters := [], returnType := none }, accessFlags := 4, code := some k2c0 }
/-- java/lang/Record -/
def k2 : Class := { plain "java/lang/Record" (some 0) with
  accessFlags := 1057
  interfaces := #[]
  cf := some (fileOf pool2 7 #[] #[{ accessFlags := 4, nameIndex := 5, descriptorIndex := 6, attributes := #[] }] 1057 2 #[] #[])
  fields := #[]
  methods := #[k2m0]
  instanceTypes := #[]
  staticTypes := #[]
  resolved := Array.replicate 22 none
  statics := none }

def pool3 : Array CpInfo := pool [(1, .methodref 2 3), (0, .class_ 4), (0, .nameAndType 5 6), (0, u "java/lang/Record"), (0, u "<init>"), (0, u "()V"), (0, .fieldref 8 9), (0, .class_ 10), (0, .nameAndType 11 12), (0, u "com/example/commit_log_store/commitlogstore/io/OffsetIndex$Entry"), (0, u "offset"), (0, u "J"), (0, .fieldref 8 14), (0, .nameAndType 15 12), (0, u "position"), (12, u "(JJ)V"), (3, u "isHeldBy"), (0, u "(JJ)Z"), (10, .class_ 45), (0, u "com/example/commit_log_store/commitlogstore/io/OffsetIndex")] 20

def k3c0 : Code := { maxStack := 3, maxLocals := 5, code := prog_40_method_1_code, exceptionTable := #[], attributes := #[] }
def k3m0 : Method := { name := "<init>", desc := "(JJ)V", sig := { parameters := [.long, .long], returnType := none }, accessFlags := 1, code := some k3c0 }
def k3c1 : Code := { maxStack := 4, maxLocals := 5, code := prog_40_method_2_code, exceptionTable := #[], attributes := #[] }
def k3m1 : Method := { name := "isHeldBy", desc := "(JJ)Z", sig := { parameters := [.long, .long], returnType := some .boolean }, accessFlags := 1, code := some k3c1 }
/-- com/example/commit_log_store/commitlogstore/io/OffsetIndex$Entry -/
def k3 : Class := { plain "com/example/commit_log_store/commitlogstore/io/OffsetIndex$Entry" (some 2) with
  accessFlags := 49
  interfaces := #[]
  cf := some (fileOf pool3 8 #[.nestHost 44] #[{ accessFlags := 1, nameIndex := 5, descriptorIndex := 28, attributes := #[] }, { accessFlags := 1, nameIndex := 32, descriptorIndex := 33, attributes := #[] }] 49 2 #[] #[{ accessFlags := 18, nameIndex := 11, descriptorIndex := 12, attributes := #[] }, { accessFlags := 18, nameIndex := 15, descriptorIndex := 12, attributes := #[] }])
  fields := #[{ name := "offset", type := .long, accessFlags := 18, slot := 0, constantValue := 0 }, { name := "position", type := .long, accessFlags := 18, slot := 1, constantValue := 0 }]
  methods := #[k3m0, k3m1]
  instanceTypes := #[.long, .long]
  staticTypes := #[]
  resolved := Array.replicate 66 none
  statics := none }

def pool4 : Array CpInfo := pool [(1, u "java/lang/Cloneable"), (0, .class_ 1), (0, u "java/lang/Object"), (0, .class_ 3)] 3

/-- java/lang/Cloneable -/
def k4 : Class := { plain "java/lang/Cloneable" (some 0) with
  accessFlags := 1537
  interfaces := #[]
  cf := some (fileOf pool4 2 #[] #[] 1537 4 #[] #[])
  fields := #[]
  methods := #[]
  instanceTypes := #[]
  staticTypes := #[]
  resolved := Array.replicate 8 none
  statics := none }

def pool5 : Array CpInfo := pool [(1, u "java/io/Serializable"), (0, .class_ 1), (0, u "java/lang/Object"), (0, .class_ 3)] 3

/-- java/io/Serializable -/
def k5 : Class := { plain "java/io/Serializable" (some 0) with
  accessFlags := 1537
  interfaces := #[]
  cf := some (fileOf pool5 2 #[] #[] 1537 4 #[] #[])
  fields := #[]
  methods := #[]
  instanceTypes := #[]
  staticTypes := #[]
  resolved := Array.replicate 8 none
  statics := none }

/-- the primitive byte -/
def k6 : Class := { plain "byte" none with kind := .primitive 'B', accessFlags := 0x411 }
/-- [B -/
def k7 : Class := { plain "[B" (some 0) with kind := .array 6 .byte, interfaces := #[4, 5], accessFlags := 1041 }

/-- the primitive int -/
def k8 : Class := { plain "int" none with kind := .primitive 'I', accessFlags := 0x411 }
/-- [I -/
def k9 : Class := { plain "[I" (some 0) with kind := .array 8 .int, interfaces := #[4, 5], accessFlags := 1041 }

def heap : Heap := #[]
def classes : Array Class := #[k0, k1, k2, k3, k4, k5, k6, k7, k8, k9]
def interned : List (Array UInt16 × Addr) := []
def slotsUsed : Nat := 0
def theMethod : MethodId := ⟨1, 1⟩
def args0 : Array Value := #[.long 5, .long 6, .long 7, .long 8, .long 9, .long 10]
def aboutOver (below : List Frame) : State where
  vm := { classes := classes, interned := interned.toArray }
  heap := heap
  slotsUsed := slotsUsed
  threads := #[{ frames := .invoking theMethod args0 :: below }]
def below0 : List Frame := [.native { method := ⟨0, 0⟩, args := #[] }]
def about1 : State := aboutOver below0
def p0 : Program := .bare "" "" ""
def e0 : Env := launch0.env 0 0 0
theorem w_frames : about1.frames = Frame.invoking theMethod args0 :: below0 := rfl
set_option maxRecDepth 65536 in
theorem w_args : argsFit about1.vm theMethod args0 = true := by decide +kernel
set_option maxRecDepth 65536 in
theorem w_heap : heapFits about1 = true := by decide +kernel
set_option maxRecDepth 65536 in
theorem w_runnable : about1.curStatus? = some .runnable := by decide +kernel
set_option maxRecDepth 65536 in
theorem w_alone : about1.alone = true := by decide +kernel
set_option maxRecDepth 65536 in
theorem w_named : about1.methodNamed? x = some theMethod := by decide +kernel
set_option maxRecDepth 65536 in
theorem w_hears : about1.hears theMethod below0 = true := by decide +kernel
set_option maxRecDepth 65536 in
theorem w_ripe : about1.ripe theMethod args0 below0 = true := by decide +kernel
theorem w_running : about1.status = .running := rfl
set_option maxRecDepth 65536 in
theorem w_room : about1.hasRoom e0.platform room_1 = true :=
  launch0.hasRoom_least _ room_1 (by decide +kernel) (by decide +kernel) (by decide +kernel) (by decide +kernel) (by decide +kernel) (by decide +kernel)
theorem allAtoms_all (ts : List Jvm.Cond) (a : Array Jvm.Value) (st : Jvm.State) : (allAtoms ts).before a st = ts.all (fun c => c.before a st) := by
  induction ts with
  | nil => rfl
  | cons c t ih =>
    show (Jvm.Cond.and c (allAtoms t)).before a st = _
    rw [Jvm.Cond.before_and, ih, List.all_cons]
def words1 : List Jvm.Cond := Jvm.Cond.code x code maxLocals ret :: tables_1
/-- a 'code' word, met by the world's own term for the bytes: nothing is compared byte by byte -/
theorem code_word {y : MethodName} {bytes : ByteArray} {mx : Nat} {rt : Option FieldType} {a : Array Value} {s : State} {m : MethodId} {meth : Method} {c : Code} (h1 : s.methodNamed? y = some m) (h2 : s.vm.method? m = some meth) (h3 : meth.code = some c) (h4 : c.code = bytes)
    (h5 : (c.maxLocals == mx && c.exceptionTable.isEmpty && decide (c.maxStack ≤ mostOperands) && decide (meth.sig.returnType = rt) && !meth.locks && decide (parseMethodDescriptor y.desc = some meth.sig)) = true) : (Jvm.Cond.code y bytes mx rt).before a s = true := by
  simp only [Bool.and_eq_true, beq_iff_eq, Bool.not_eq_true', decide_eq_true_eq] at h5
  obtain ⟨⟨⟨⟨⟨g1, g2⟩, g3⟩, g4⟩, g5⟩, g6⟩ := h5
  simp [Cond.before, Cond.holds, Cond.value, h1, h2, h3, h4, g1, g2, g3, g4, g5, g6]
def isCode : Jvm.Cond → Bool
  | .code _ _ _ _ => true
  | _ => false
theorem all_split {L : List Jvm.Cond} {P : Jvm.Cond → Bool} (h1 : L.all (fun c => isCode c || P c) = true) (h2 : ∀ c ∈ L.filter isCode, P c = true) : L.all P = true := by
  refine List.all_eq_true.mpr fun c hc => ?_
  have h := List.all_eq_true.mp h1 c hc
  rcases Bool.eq_false_or_eq_true (isCode c) with hi | hi
  · exact h2 c (List.mem_filter.mpr ⟨hc, hi⟩)
  · simpa [hi] using h
set_option maxRecDepth 65536 in
theorem w_c0 : (Jvm.Cond.code x code maxLocals ret).before args0 about1 = true := code_word (m := ⟨1, 1⟩) (meth := k1m1) (c := k1c1) (by decide +kernel) rfl rfl rfl (by decide +kernel)
set_option maxRecDepth 65536 in
theorem w_c1 : (Jvm.Cond.code ({ cls := "com/example/commit_log_store/commitlogstore/io/OffsetIndex$Entry", name := "<init>", desc := "(JJ)V" } : Jvm.MethodName) prog_40_method_1_code (5 : Nat) (Option.none : Option Jvm.ClassFile.FieldType)).before args0 about1 = true := code_word (m := ⟨3, 0⟩) (meth := k3m0) (c := k3c0) (by decide +kernel) rfl rfl rfl (by decide +kernel)
set_option maxRecDepth 65536 in
theorem w_c2 : (Jvm.Cond.code ({ cls := "java/lang/Record", name := "<init>", desc := "()V" } : Jvm.MethodName) jdk_30_method_1_code (1 : Nat) (Option.none : Option Jvm.ClassFile.FieldType)).before args0 about1 = true := code_word (m := ⟨2, 0⟩) (meth := k2m0) (c := k2c0) (by decide +kernel) rfl rfl rfl (by decide +kernel)
set_option maxRecDepth 65536 in
theorem w_c3 : (Jvm.Cond.code ({ cls := "java/lang/Object", name := "<init>", desc := "()V" } : Jvm.MethodName) object_method_1_code (1 : Nat) (Option.none : Option Jvm.ClassFile.FieldType)).before args0 about1 = true := code_word (m := ⟨0, 0⟩) (meth := k0m0) (c := k0c0) (by decide +kernel) rfl rfl rfl (by decide +kernel)
set_option maxRecDepth 65536 in
theorem w_c4 : (Jvm.Cond.code ({ cls := "com/example/commit_log_store/commitlogstore/io/OffsetIndex$Entry", name := "isHeldBy", desc := "(JJ)Z" } : Jvm.MethodName) prog_40_method_2_code (5 : Nat) (Option.some Jvm.ClassFile.FieldType.boolean)).before args0 about1 = true := code_word (m := ⟨3, 1⟩) (meth := k3m1) (c := k3c1) (by decide +kernel) rfl rfl rfl (by decide +kernel)
def codes1 : List Jvm.Cond := [Jvm.Cond.code x code maxLocals ret, Jvm.Cond.code ({ cls := "com/example/commit_log_store/commitlogstore/io/OffsetIndex$Entry", name := "<init>", desc := "(JJ)V" } : Jvm.MethodName) prog_40_method_1_code (5 : Nat) (Option.none : Option Jvm.ClassFile.FieldType), Jvm.Cond.code ({ cls := "java/lang/Record", name := "<init>", desc := "()V" } : Jvm.MethodName) jdk_30_method_1_code (1 : Nat) (Option.none : Option Jvm.ClassFile.FieldType), Jvm.Cond.code ({ cls := "java/lang/Object", name := "<init>", desc := "()V" } : Jvm.MethodName) object_method_1_code (1 : Nat) (Option.none : Option Jvm.ClassFile.FieldType), Jvm.Cond.code ({ cls := "com/example/commit_log_store/commitlogstore/io/OffsetIndex$Entry", name := "isHeldBy", desc := "(JJ)Z" } : Jvm.MethodName) prog_40_method_2_code (5 : Nat) (Option.some Jvm.ClassFile.FieldType.boolean)]
set_option maxRecDepth 65536 in
theorem codes_eq : words1.filter isCode = codes1 := rfl
theorem w_codes : ∀ c ∈ words1.filter isCode, c.before args0 about1 = true := by
  rw [codes_eq]
  intro c hc
  simp only [codes1, List.mem_cons, List.not_mem_nil, or_false] at hc
  rcases hc with rfl | rfl | rfl | rfl | rfl
  · exact w_c0
  · exact w_c1
  · exact w_c2
  · exact w_c3
  · exact w_c4
set_option maxRecDepth 65536 in
theorem w_t1 : (words1.take 24).all (fun c => isCode c || c.before args0 about1) = true := by decide +kernel
set_option maxRecDepth 65536 in
theorem w_t2 : (words1.drop 24).all (fun c => isCode c || c.before args0 about1) = true := by decide +kernel
theorem w_tables : (allAtoms (Jvm.Cond.code x code maxLocals ret :: tables_1)).before args0 about1 = true := by
  rw [allAtoms_all]
  show words1.all (fun c => c.before args0 about1) = true
  refine all_split ?_ w_codes
  rw [← List.take_append_drop 24 words1, List.all_append, w_t1, w_t2]
  rfl
set_option maxRecDepth 65536 in
theorem w_case : (Jvm.Cond.and given_1 narrow_1).before args0 about1 = true := by decide +kernel
theorem w_applies : (headSpec (Jvm.Cond.code x code maxLocals ret :: tables_1) room_1).applies x e0.platform about1 = true :=
  (Spec.applies_iff w_frames).mpr ⟨w_running, w_runnable, w_alone, w_named, w_hears, w_ripe, w_room, w_tables⟩
theorem atStart : AtStart classFile x code maxLocals ret World_1 tables_1 room_1 Calls_1 rest_1 Pre_1 launch0 p0 e0 about1 theMethod args0 below0 :=
  ⟨lists_1, trivial, launch0.admits_env _ _ _, launch0.least_env, fairChoices_fair.cas, fairChoices_fair.clock, w_frames, w_args, w_heap, w_applies, trivial, trivial, w_case⟩
end start1
theorem witness_1 : WitnessClaimed_1 := ⟨start1.p0, start1.e0, start1.about1, start1.theMethod, start1.args0, start1.below0, start1.atStart⟩
end Jvm.Pilot.@@N@@
